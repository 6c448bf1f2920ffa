import JvmDerived
import JvmDerived.Pilot.@@N@@Statement
import JvmDerived.Pilot.@@N@@Code
set_option linter.unusedVariables false
set_option linter.unusedSimpArgs false
namespace Jvm.RoadKit
open Sem ClassFile Op Lib Jvm.Stand Jvm.Free Jvm.LawKit
section New
variable {p : Program} {l : Launch} {e : Env} {R : Room} {s : State} {m : MethodId} {args : Array Value} {below : List Frame} {meth : Method} {c : Code} {T : State} {locs : List Loc} {cells slots : Nat}
theorem retI (X : Stand p l e R s m args below meth c T locs cells slots) (hx : p.tables.exec = Jvm.exec) {pc : Nat} {Ls : Array Slot} {z : Int32} {rest : List Value} (hret : meth.sig.returnType = some .int) (hd : decode c.code pc = .ok (.ireturn, 1)) {fs : List Frame}
    (hl : ∀ (f : JFrame) (acts : List Action), f.method = m → f.locked = none → f.entered = [] → (doReturn e (T.setTop f) acts (some (.int z))).1 = T.setFrames fs) : Steps p.tables e below (T.setTop (mkF m pc Ls (.int z :: rest))) (T.setFrames fs) := by
  have hm' : T.vm.method? m = some meth := X.method'
  have hn : narrow .int (.int z) = .int z := rfl
  show Steps p.tables e below (T.setTop { method := m, pc := pc, locals := Ls, stack := _ :: rest, locked := none }) _
  jvm_step X.here [X.here.top, hx, hd, hm', hret, hn]
  first | (intro acts; rw [hl _ acts rfl rfl rfl]) | rw [hl _ _ rfl rfl rfl]
  exact Steps.refl _
theorem own_retJ (X : Stand p l e R s m args below meth c T locs cells slots) (hx : p.tables.exec = Jvm.exec) {pc : Nat} {Ls : Array Slot} {z : Int64} {rest : List Value} (hret : meth.sig.returnType = some .long) (hd : decode c.code pc = .ok (.lreturn, 1)) {fs : List Frame}
    (hl : ∀ (f : JFrame) (acts : List Action), f.method = m → f.locked = none → f.entered = [] → (doReturn e (T.setTop f) acts (some (.long z))).1 = T.setFrames fs) : Steps p.tables e below (T.setTop (mkF m pc Ls (.long z :: rest))) (T.setFrames fs) := by
  have hm' : T.vm.method? m = some meth := X.method'
  show Steps p.tables e below (T.setTop { method := m, pc := pc, locals := Ls, stack := _ :: rest, locked := none }) _
  jvm_step X.here [X.here.top, hx, hd, hm', hret, narrow]
  first | (intro acts; rw [hl _ acts rfl rfl rfl]) | rw [hl _ _ rfl rfl rfl]
  exact Steps.refl _
theorem own_retD (X : Stand p l e R s m args below meth c T locs cells slots) (hx : p.tables.exec = Jvm.exec) {pc : Nat} {Ls : Array Slot} {z : UInt64} {rest : List Value} (hret : meth.sig.returnType = some .double) (hd : decode c.code pc = .ok (.dreturn, 1)) {fs : List Frame}
    (hl : ∀ (f : JFrame) (acts : List Action), f.method = m → f.locked = none → f.entered = [] → (doReturn e (T.setTop f) acts (some (.double z))).1 = T.setFrames fs) : Steps p.tables e below (T.setTop (mkF m pc Ls (.double z :: rest))) (T.setFrames fs) := by
  have hm' : T.vm.method? m = some meth := X.method'
  show Steps p.tables e below (T.setTop { method := m, pc := pc, locals := Ls, stack := _ :: rest, locked := none }) _
  jvm_step X.here [X.here.top, hx, hd, hm', hret, narrow]
  first | (intro acts; rw [hl _ acts rfl rfl rfl]) | rw [hl _ _ rfl rfl rfl]
  exact Steps.refl _
theorem own_retR (X : Stand p l e R s m args below meth c T locs cells slots) (hx : p.tables.exec = Jvm.exec) {pc : Nat} {Ls : Array Slot} {z : Addr} {rest : List Value} {ty : FieldType} (hret : meth.sig.returnType = some ty) (hty : ty.isReference = true) (hd : decode c.code pc = .ok (.areturn, 1)) {fs : List Frame}
    (hl : ∀ (f : JFrame) (acts : List Action), f.method = m → f.locked = none → f.entered = [] → (doReturn e (T.setTop f) acts (some (.ref z))).1 = T.setFrames fs) : Steps p.tables e below (T.setTop (mkF m pc Ls (.ref z :: rest))) (T.setFrames fs) := by
  have hm' : T.vm.method? m = some meth := X.method'
  show Steps p.tables e below (T.setTop { method := m, pc := pc, locals := Ls, stack := _ :: rest, locked := none }) _
  jvm_step X.here [X.here.top, hx, hd, hm', hret, hty, Value.isRef]
  first | (intro acts; rw [hl _ acts rfl rfl rfl]) | rw [hl _ _ rfl rfl rfl]
  exact Steps.refl _
theorem own_nm0 {a : Addr} : a ∉ ([] : List Addr) := List.not_mem_nil
theorem own_nmc {a w : Addr} {ws : List Addr} (h : a ≠ w) (r : a ∉ ws) : a ∉ w :: ws := fun q => (List.mem_cons.mp q).elim h r
theorem own_wm0 {P : Addr → Prop} : ∀ x ∈ ([] : List Addr), P x := fun _ q => nomatch q
theorem own_wmc {P : Addr → Prop} {w : Addr} {ws : List Addr} (h : P w) (r : ∀ x ∈ ws, P x) : ∀ x ∈ w :: ws, P x := fun x q => (List.mem_cons.mp q).elim (fun z => z ▸ h) (r x)
end New
end Jvm.RoadKit
namespace Jvm.Pilot.@@N@@
open Jvm Jvm.ClassFile Sem Op Lib Jvm.Free Jvm.Stand Jvm.LawKit Jvm.RoadKit Bundle Jvm.Pilot.@@N@@.Jvm.D
open Jvm.Free.Fl (NoNaN64 Fin64 Nz64)
theorem own_k5 (x : Int32) : ((x &&& (2147483647 : Int32)) % (5 : Int32)) = (0 : Int32) ∨ ((x &&& (2147483647 : Int32)) % (5 : Int32)) = (1 : Int32) ∨ ((x &&& (2147483647 : Int32)) % (5 : Int32)) = (2 : Int32) ∨ ((x &&& (2147483647 : Int32)) % (5 : Int32)) = (3 : Int32) ∨ ((x &&& (2147483647 : Int32)) % (5 : Int32)) = (4 : Int32) := by
  have h := c_mask x 2147483647 31 (by decide) (by decide)
  have h1 : 0 ≤ (x &&& (2147483647 : Int32)).toInt := by rw [h]; exact Int.emod_nonneg _ (by decide)
  have h2 := (c_irem (x &&& 2147483647) 5 5 rfl).1 h1
  have e : ∀ k : Int32, ((x &&& (2147483647 : Int32)) % (5 : Int32)).toInt = k.toInt → ((x &&& (2147483647 : Int32)) % (5 : Int32)) = k := fun k q => Int32.toInt_inj.mp q
  have : (x &&& (2147483647 : Int32)).toInt % 5 = 0 ∨ (x &&& (2147483647 : Int32)).toInt % 5 = 1 ∨ (x &&& (2147483647 : Int32)).toInt % 5 = 2 ∨ (x &&& (2147483647 : Int32)).toInt % 5 = 3 ∨ (x &&& (2147483647 : Int32)).toInt % 5 = 4 := by omega
  rcases this with q | q | q | q | q
  · exact Or.inl (e 0 (h2.trans q))
  · exact Or.inr (Or.inl (e 1 (h2.trans q)))
  · exact Or.inr (Or.inr (Or.inl (e 2 (h2.trans q))))
  · exact Or.inr (Or.inr (Or.inr (Or.inl (e 3 (h2.trans q)))))
  · exact Or.inr (Or.inr (Or.inr (Or.inr (e 4 (h2.trans q)))))
theorem own_k4 (x : Int32) : (x &&& (3 : Int32)) = (0 : Int32) ∨ (x &&& (3 : Int32)) = (1 : Int32) ∨ (x &&& (3 : Int32)) = (2 : Int32) ∨ (x &&& (3 : Int32)) = (3 : Int32) := by
  have h := c_mask x 3 2 (by decide) (by decide)
  have e : ∀ k : Int32, (x &&& (3 : Int32)).toInt = k.toInt → (x &&& (3 : Int32)) = k := fun k q => Int32.toInt_inj.mp q
  have : x.toInt % (2 ^ 2 : Nat) = 0 ∨ x.toInt % (2 ^ 2 : Nat) = 1 ∨ x.toInt % (2 ^ 2 : Nat) = 2 ∨ x.toInt % (2 ^ 2 : Nat) = 3 := by
    have : ((2 ^ 2 : Nat) : Int) = 4 := by decide
    omega
  rcases this with q | q | q | q
  · exact Or.inl (e 0 (h.trans q))
  · exact Or.inr (Or.inl (e 1 (h.trans q)))
  · exact Or.inr (Or.inr (Or.inl (e 2 (h.trans q))))
  · exact Or.inr (Or.inr (Or.inr (e 3 (h.trans q))))
theorem ef_fill0 (m : MethodId) (a1 : Addr) (d1 : UInt64) : entryFrame m #[(.ref a1), (.double d1)] 5 = mkF m 0 #[.val (.ref a1), .val (.double d1), .second, .unset, .unset] [] := by first | (simp [entryFrame, mkF, argsToLocals, Value.category]; done) | rfl
theorem d3_0 : decode jdk_65_method_113_code 0 = .ok (.iconst 0, 1) := by decide +kernel
theorem d3_1 : decode jdk_65_method_113_code 1 = .ok (.istore_n 3, 1) := by decide +kernel
theorem d3_2 : decode jdk_65_method_113_code 2 = .ok (.aload_n 0, 1) := by decide +kernel
theorem d3_3 : decode jdk_65_method_113_code 3 = .ok (.arraylength, 1) := by decide +kernel
theorem d3_4 : decode jdk_65_method_113_code 4 = .ok (.istore 4, 2) := by decide +kernel
theorem d3_6 : decode jdk_65_method_113_code 6 = .ok (.iload_n 3, 1) := by decide +kernel
theorem d3_7 : decode jdk_65_method_113_code 7 = .ok (.iload 4, 2) := by decide +kernel
theorem d3_9 : decode jdk_65_method_113_code 9 = .ok (.if_icmp .ge 13, 3) := by decide +kernel
theorem d3_22 : decode jdk_65_method_113_code 22 = .ok (.return_, 1) := by decide +kernel
theorem pn_java_util_Arrays : plainName "java/util/Arrays" = true := by first | (simp [plainName, overriddenIn]; done) | decide +kernel
def Qfill0 (Z : State) (a1 : Addr) (d1 : UInt64) (kk : ClassId) (h0 : Heap) (n0 : Nat) (v : Option Value) (h : Heap) (L : List Loc) : Prop := v = none ∧ Fr n0 L ∧ Keep h0 h [a1] ∧ (Arv Z h a1 kk .double (0 : Int32) [] (.double (0 : UInt64)))
set_option maxRecDepth 65536 in
set_option maxHeartbeats 40000000 in
theorem rmfill0 (l : Launch) (Z : State) (a0 : Array Value) (hw : ∀ d ∈ tables_1, d.before a0 Z = true) (ws : List Jvm.Cond) (a1 : Addr) (d1 : UInt64) (kk : ClassId) (h0 : Heap) (n0 : Nat) (Z0 : n0 ≤ h0.size) (P_V_a1 : Arv Z h0 a1 kk .double (0 : Int32) [] (.double (0 : UInt64))) (P_G_a1 : n0 ≤ a1) :
    MetFree l (⟨"java/util/Arrays", "fill", "([DD)V"⟩ : MethodName) (head1 (Jvm.Cond.code (⟨"java/util/Arrays", "fill", "([DD)V"⟩ : MethodName) jdk_65_method_113_code 5 none :: ws) ({ frames := 0, cells := 0, slots := 0, locals := 0 } : Room)) (fun a U => a = #[(.ref a1), (.double d1)] ∧ Z.Warmed39 U.vm ∧ U.heap = h0) (fun _ _ _ _ _ => True) (fun _ U o U' => ∃ v L, o = .returned v ∧ Qfill0 Z a1 d1 kk h0 n0 v U'.heap L ∧ FrameEnd U o U' L ({ frames := 0, cells := 0, slots := 0, locals := 0 } : Room).cells ({ frames := 0, cells := 0, slots := 0, locals := 0 } : Room).slots) := by
  refine MetFree.of_bodySF (plainFor_of_name pn_java_util_Arrays) hisR ?_
  intro p e s m args below meth c s₁ Bd hml0 hP hK
  obtain ⟨rfl, hZ, hh⟩ := hP
  have hx := Bd.exec
  have hby := Bd.bytes
  have hml : c.maxLocals = 5 := hml0
  have hown : s.vm.findClass "java/util/Arrays" = some m.cls := findClass_of_methodNamed Bd.named
  have hnm := (name_of_methodNamed Bd.named Bd.method).1
  have X0 : Stand p l e ({ frames := 0, cells := 0, slots := 0, locals := 0 } : Room) s m #[(.ref a1), (.double d1)] below meth c s₁ [] 0 0 := Stand.of_body Bd
  have e0 : s₁.heap = h0 := by rw [← hh, Bd.state]; rfl
  have N0 := Fr.nil n0
  have pre0 : ∀ t, Steps p.tables e below (s₁.setTop (mkF m 0 #[.val (.ref a1), .val (.double d1), .second, .unset, .unset] [])) t → Steps p.tables e below (s₁.setTop (entryFrame m #[(.ref a1), (.double d1)] 5)) t := fun t k => castTop (ef_fill0 m a1 d1) k
  obtain ⟨cl1, Ar1, Q1, S1, M1, H1, G1⟩ := id P_V_a1
  have pre2 : ∀ t, Steps p.tables e below (s₁.setTop (mkF m 22 #[.val (.ref a1), .val (.double d1), .second, .val (.int (0 : Int32)), .val (.int (0 : Int32))] [])) t → Steps p.tables e below (s₁.setTop (entryFrame m #[(.ref a1), (.double d1)] 5)) t := fun t kt => pre0 t (by
      show Steps p.tables e below (s₁.setTop (mkF m 0 #[.val (.ref a1), .val (.double d1), .second, .unset, .unset] [])) _
      refine XS.iconst X0.here hx rfl (hb hby d3_0) ?_
      show Steps p.tables e below (s₁.setTop (mkF m 1 #[.val (.ref a1), .val (.double d1), .second, .unset, .unset] [(.int (0 : Int32))])) _
      refine XS.istoreN X0.here hx rfl (hb hby d3_1) rfl (l' := #[.val (.ref a1), .val (.double d1), .second, .val (.int (0 : Int32)), .unset]) rfl ?_
      show Steps p.tables e below (s₁.setTop (mkF m 2 #[.val (.ref a1), .val (.double d1), .second, .val (.int (0 : Int32)), .unset] [])) _
      refine XS.aloadN X0.here hx rfl (hb hby d3_2) rfl rfl ?_
      show Steps p.tables e below (s₁.setTop (mkF m 3 #[.val (.ref a1), .val (.double d1), .second, .val (.int (0 : Int32)), .unset] [(.ref a1)])) _
      refine X0.arraylength hx (cell := cl1) (by rw [e0]; exact Ar1.1) (State.isArrayOf_alike hZ.alike Ar1.2.1) (g := (mkF m 3 #[.val (.ref a1), .val (.double d1), .second, .val (.int (0 : Int32)), .unset] [(.ref a1)])) rfl rfl (hb hby d3_3) _ ?_
      rw [len_of S1 M1]
      show Steps p.tables e below (s₁.setTop (mkF m 4 #[.val (.ref a1), .val (.double d1), .second, .val (.int (0 : Int32)), .unset] [(.int (0 : Int32))])) _
      refine XS.istore X0.here hx rfl (hb hby d3_4) rfl (l' := #[.val (.ref a1), .val (.double d1), .second, .val (.int (0 : Int32)), .val (.int (0 : Int32))]) rfl ?_
      show Steps p.tables e below (s₁.setTop (mkF m 6 #[.val (.ref a1), .val (.double d1), .second, .val (.int (0 : Int32)), .val (.int (0 : Int32))] [])) _
      refine XS.iloadN X0.here hx rfl (hb hby d3_6) rfl ?_
      show Steps p.tables e below (s₁.setTop (mkF m 7 #[.val (.ref a1), .val (.double d1), .second, .val (.int (0 : Int32)), .val (.int (0 : Int32))] [(.int (0 : Int32))])) _
      refine XS.iload X0.here hx rfl (hb hby d3_7) rfl ?_
      show Steps p.tables e below (s₁.setTop (mkF m 9 #[.val (.ref a1), .val (.double d1), .second, .val (.int (0 : Int32)), .val (.int (0 : Int32))] [(.int (0 : Int32)), (.int (0 : Int32))])) _
      refine XS.icmpYes X0.here hx rfl (pc0 := 9) (pc' := 22) rfl (hb hby d3_9) rfl (flt ((by decide) : ¬ ((0 : Int32) < (0 : Int32)))).2.1 (by decide) (by decide) ?_
      exact kt)
  obtain ⟨fs, hr, hrun, hended, hW, hsame⟩ := X0.leave (v := none) (fun _ => rfl)
  refine ⟨_, _, pre2 _ ?_, hrun, hended, _, _, rfl, ?_, ⟨_, rfl⟩, hW, hsame.mono (by decide) (by decide)⟩
  · show Steps p.tables e below (s₁.setTop (mkF m 22 #[.val (.ref a1), .val (.double d1), .second, .val (.int (0 : Int32)), .val (.int (0 : Int32))] [])) _
    exact X0.returnOut hx Bd.returns (hb hby d3_22) hr
  · show Qfill0 Z a1 d1 kk h0 n0 _ s₁.heap _
    rw [e0]
    exact ⟨rfl, N0, (Keep.refl h0 [a1]), P_V_a1⟩
theorem ef_fitN0 (m : MethodId) (a1 : Addr) : entryFrame m #[(.ref a1), (.int (0 : Int32))] 3 = mkF m 0 #[.val (.ref a1), .val (.int (0 : Int32)), .unset] [] := by first | (simp [entryFrame, mkF, argsToLocals, Value.category]; done) | rfl
theorem d2_0 : decode prog_10_method_2_code 0 = .ok (.aload_n 0, 1) := by decide +kernel
theorem d2_1 : decode prog_10_method_2_code 1 = .ok (.arraylength, 1) := by decide +kernel
theorem d2_2 : decode prog_10_method_2_code 2 = .ok (.iconst 1, 1) := by decide +kernel
theorem d2_3 : decode prog_10_method_2_code 3 = .ok (.if_icmp .ne 16, 3) := by decide +kernel
theorem d2_6 : decode prog_10_method_2_code 6 = .ok (.iload_n 1, 1) := by decide +kernel
theorem d2_7 : decode prog_10_method_2_code 7 = .ok (.newarray .double, 2) := by decide +kernel
theorem d2_9 : decode prog_10_method_2_code 9 = .ok (.astore_n 2, 1) := by decide +kernel
theorem d2_10 : decode prog_10_method_2_code 10 = .ok (.aload_n 2, 1) := by decide +kernel
theorem d2_11 : decode prog_10_method_2_code 11 = .ok (.aload_n 0, 1) := by decide +kernel
theorem d2_12 : decode prog_10_method_2_code 12 = .ok (.iconst 0, 1) := by decide +kernel
theorem d2_13 : decode prog_10_method_2_code 13 = .ok (.daload, 1) := by decide +kernel
theorem pd__28_5bDD_29V : parseMethodDescriptor "([DD)V" = some ⟨[(.array .double), .double], none⟩ := by decide +kernel
theorem d2_14 : decode prog_10_method_2_code 14 = .ok (.invokestatic 7, 3) := by decide +kernel
theorem d2_17 : decode prog_10_method_2_code 17 = .ok (.aload_n 2, 1) := by decide +kernel
theorem d2_18 : decode prog_10_method_2_code 18 = .ok (.areturn, 1) := by decide +kernel
theorem pn_com_example_manyfront_manyfront_cli_ReferencePoint : plainName "com/example/manyfront/manyfront/cli/ReferencePoint" = true := by first | (simp [plainName, overriddenIn]; done) | decide +kernel
def QfitN0 (Z : State) (a1 : Addr) (d1 : UInt64) (kk : ClassId) (h0 : Heap) (n0 : Nat) (v : Option Value) (h : Heap) (L : List Loc) : Prop := ∃ (b : Addr) (kb : ClassId), v = some (.ref b) ∧ Fr n0 L ∧ Keep h0 h [] ∧ (h0.size ≤ b) ∧ (Arv Z h b kb .double (0 : Int32) [] (.double (0 : UInt64)))
set_option maxRecDepth 65536 in
set_option maxHeartbeats 40000000 in
theorem rmfitN0 (l : Launch) (Z : State) (a0 : Array Value) (hw : ∀ d ∈ tables_1, d.before a0 Z = true) (ws : List Jvm.Cond) (a1 : Addr) (d1 : UInt64) (kk : ClassId) (h0 : Heap) (n0 : Nat) (Z0 : n0 ≤ h0.size) (P_V_a1 : Arv Z h0 a1 kk .double (1 : Int32) [(.double d1)] (.double (0 : UInt64))) :
    MetFree l (⟨"com/example/manyfront/manyfront/cli/ReferencePoint", "fit", "([DI)[D"⟩ : MethodName) (head1 (Jvm.Cond.code (⟨"com/example/manyfront/manyfront/cli/ReferencePoint", "fit", "([DI)[D"⟩ : MethodName) prog_10_method_2_code 3 (some (.array .double)) :: ws) ({ frames := 1, cells := 1, slots := 0, locals := 16 } : Room)) (fun a U => a = #[(.ref a1), (.int (0 : Int32))] ∧ Z.Warmed39 U.vm ∧ U.heap = h0) (fun _ _ _ _ _ => True) (fun _ U o U' => ∃ v L, o = .returned v ∧ QfitN0 Z a1 d1 kk h0 n0 v U'.heap L ∧ FrameEnd U o U' L ({ frames := 1, cells := 1, slots := 0, locals := 16 } : Room).cells ({ frames := 1, cells := 1, slots := 0, locals := 16 } : Room).slots) := by
  refine MetFree.of_bodySF (plainFor_of_name pn_com_example_manyfront_manyfront_cli_ReferencePoint) hisR ?_
  intro p e s m args below meth c s₁ Bd hml0 hP hK
  obtain ⟨rfl, hZ, hh⟩ := hP
  have hx := Bd.exec
  have hby := Bd.bytes
  have hml : c.maxLocals = 3 := hml0
  have hown : s.vm.findClass "com/example/manyfront/manyfront/cli/ReferencePoint" = some m.cls := findClass_of_methodNamed Bd.named
  have hnm := (name_of_methodNamed Bd.named Bd.method).1
  have X0 : Stand p l e ({ frames := 1, cells := 1, slots := 0, locals := 16 } : Room) s m #[(.ref a1), (.int (0 : Int32))] below meth c s₁ [] 0 0 := Stand.of_body Bd
  have e0 : s₁.heap = h0 := by rw [← hh, Bd.state]; rfl
  have N0 := Fr.nil n0
  have pre0 : ∀ t, Steps p.tables e below (s₁.setTop (mkF m 0 #[.val (.ref a1), .val (.int (0 : Int32)), .unset] [])) t → Steps p.tables e below (s₁.setTop (entryFrame m #[(.ref a1), (.int (0 : Int32))] 3)) t := fun t k => castTop (ef_fitN0 m a1) k
  obtain ⟨cl1, Ar1, Q1, S1, M1, H1, G1⟩ := id P_V_a1
  obtain ⟨T2, h2, k2, X2, e2, E2, A2, st2⟩ := newP X0 hx hZ (hw _ (List.mem_of_getElem? (i := 4) rfl)) e0 (g := (mkF m 7 #[.val (.ref a1), .val (.int (0 : Int32)), .unset] [(.int (0 : Int32))])) rfl (hb hby d2_7) rfl (by decide) (cap := 0) (by decide) (by decide) (by decide) (by decide)
  obtain ⟨b2, g2⟩ : ∃ z, z = h0.size := ⟨_, rfl⟩
  rw [← g2] at A2 st2
  have ne3 : a1 ≠ b2 := Nat.ne_of_lt (Nat.lt_of_lt_of_le P_V_a1.lt (Nat.le_of_eq g2.symm))
  have g_b2 : n0 ≤ b2 := Nat.le_trans Z0 (Nat.le_of_eq g2.symm)
  have sz_b2 : h0.size ≤ b2 := Nat.le_trans (Keep.refl h0 []).1 (Nat.le_of_eq g2.symm)
  have z4 : n0 ≤ h2.size := Nat.le_trans Z0 E2.1
  have k5 : Keep h0 h2 [] := (Keep.refl h0 []).ext E2
  have V2 : Arv Z h2 b2 k2 .double (0 : Int32) [] (.double (0 : UInt64)) := (Arv.new A2 (by decide)).pad (pad_rep [] (.double (0 : UInt64)) 0)
  have f6 : Arv Z h2 a1 kk .double (1 : Int32) [(.double d1)] (.double (0 : UInt64)) := (P_V_a1.ext E2)
  obtain ⟨cl7, Ar7, Q7, S7, M7, H7, G7⟩ := id f6
  have in8 : ¬ ((0 : Int32) < 0 ∨ cl7.slots.size ≤ ((0 : Int32)).toNatClampNeg) := inb_of S7 ⟨by decide, by decide⟩
  have at9 : cl7.slots[((0 : Int32)).toNatClampNeg]? = some (.double d1) := H7 0 (by rw [S7]; decide)
  obtain ⟨_, _, ⟨T10, L10, kk10, nn10⟩, -, X10, ⟨Lc10, hQ10, l10, y10, z10⟩, st10⟩ := Jvm.LawKit.callS X2 hx (y := (⟨"java/util/Arrays", "fill", "([DD)V"⟩ : MethodName)) hown (mvT hZ (hw _ (List.mem_of_getElem? (i := 10) rfl))) (mvT hZ (hw _ (List.mem_of_getElem? (i := 11) rfl))) (mvT hZ (hw _ (List.mem_of_getElem? (i := 12) rfl))) (mvT hZ (hw _ (List.mem_of_getElem? (i := 13) rfl))) (by decide) (backOf (W := 0) (rmfill0 l Z a0 hw [] b2 d1 k2 h2 n0 z4 V2 g_b2) hZ (hw _ (List.mem_of_getElem? (i := 13) rfl)) (hw _ (List.mem_of_getElem? (i := 12) rfl)) (by decide) (by decide)) (g := (mkF m 14 #[.val (.ref a1), .val (.int (0 : Int32)), .val (.ref b2)] [(.double d1), (.ref b2)])) rfl (by rw [hml]; rfl) (argsL := [(.ref b2), (.double d1)]) (rest := []) (lenOf pd__28_5bDD_29V rfl) rfl (by show 2 * 0 + _ ≤ _; exact Nat.le_of_eq rfl) (hb hby d2_14) (fun _ _ => ⟨rfl, e2, (by decide : 1 + 0 ≤ _), (by decide : 0 + 0 ≤ _)⟩)
  dsimp only [Pt.U, Pt.locs, Pt.cells, Pt.slots] at X10 l10 y10 z10 st10 hQ10
  subst l10 y10 z10
  obtain ⟨rfl, N10q, K10, x10_0⟩ := hQ10
  have N10 := Fr.app N0 N10q
  have z11 : n0 ≤ T10.heap.size := Nat.le_trans z4 K10.1
  have k12 : Keep h0 T10.heap [] := k5.trans K10 (own_wmc (Or.inr sz_b2) own_wm0)
  have pre13 : ∀ t, Steps p.tables e below (T10.setTop (mkF m 18 #[.val (.ref a1), .val (.int (0 : Int32)), .val (.ref b2)] [(.ref b2)])) t → Steps p.tables e below (s₁.setTop (entryFrame m #[(.ref a1), (.int (0 : Int32))] 3)) t := fun t kt => pre0 t (by
      show Steps p.tables e below (s₁.setTop (mkF m 0 #[.val (.ref a1), .val (.int (0 : Int32)), .unset] [])) _
      refine XS.aloadN X0.here hx rfl (hb hby d2_0) rfl rfl ?_
      show Steps p.tables e below (s₁.setTop (mkF m 1 #[.val (.ref a1), .val (.int (0 : Int32)), .unset] [(.ref a1)])) _
      refine X0.arraylength hx (cell := cl1) (by rw [e0]; exact Ar1.1) (State.isArrayOf_alike hZ.alike Ar1.2.1) (g := (mkF m 1 #[.val (.ref a1), .val (.int (0 : Int32)), .unset] [(.ref a1)])) rfl rfl (hb hby d2_1) _ ?_
      rw [len_of S1 M1]
      show Steps p.tables e below (s₁.setTop (mkF m 2 #[.val (.ref a1), .val (.int (0 : Int32)), .unset] [(.int (1 : Int32))])) _
      refine XS.iconst X0.here hx rfl (hb hby d2_2) ?_
      show Steps p.tables e below (s₁.setTop (mkF m 3 #[.val (.ref a1), .val (.int (0 : Int32)), .unset] [(.int (1 : Int32)), (.int (1 : Int32))])) _
      refine XS.icmpNo X0.here hx rfl (hb hby d2_3) rfl (teq ((by decide) : (1 : Int32) = (1 : Int32))).2 ?_
      show Steps p.tables e below (s₁.setTop (mkF m 6 #[.val (.ref a1), .val (.int (0 : Int32)), .unset] [])) _
      refine XS.iloadN X0.here hx rfl (hb hby d2_6) rfl ?_
      show Steps p.tables e below (s₁.setTop (mkF m 7 #[.val (.ref a1), .val (.int (0 : Int32)), .unset] [(.int (0 : Int32))])) _
      refine st2 _ ?_
      show Steps p.tables e below (T2.setTop (mkF m 9 #[.val (.ref a1), .val (.int (0 : Int32)), .unset] [(.ref b2)])) _
      refine XS.astoreN X2.here hx rfl (hb hby d2_9) rfl rfl (l' := #[.val (.ref a1), .val (.int (0 : Int32)), .val (.ref b2)]) rfl ?_
      show Steps p.tables e below (T2.setTop (mkF m 10 #[.val (.ref a1), .val (.int (0 : Int32)), .val (.ref b2)] [])) _
      refine XS.aloadN X2.here hx rfl (hb hby d2_10) rfl rfl ?_
      show Steps p.tables e below (T2.setTop (mkF m 11 #[.val (.ref a1), .val (.int (0 : Int32)), .val (.ref b2)] [(.ref b2)])) _
      refine XS.aloadN X2.here hx rfl (hb hby d2_11) rfl rfl ?_
      show Steps p.tables e below (T2.setTop (mkF m 12 #[.val (.ref a1), .val (.int (0 : Int32)), .val (.ref b2)] [(.ref a1), (.ref b2)])) _
      refine XS.iconst X2.here hx rfl (hb hby d2_12) ?_
      show Steps p.tables e below (T2.setTop (mkF m 13 #[.val (.ref a1), .val (.int (0 : Int32)), .val (.ref b2)] [(.int (0 : Int32)), (.ref a1), (.ref b2)])) _
      refine X2.daload hx (j := (0 : Int32)) (v := (.double d1)) (by rw [e2]; exact Ar7.1) (State.isArrayOf_alike hZ.alike Ar7.2.1) Ar7.2.2 in8 at9 (g := (mkF m 13 #[.val (.ref a1), .val (.int (0 : Int32)), .val (.ref b2)] [(.int (0 : Int32)), (.ref a1), (.ref b2)])) rfl rfl (hb hby d2_13) _ ?_
      show Steps p.tables e below (T2.setTop (mkF m 14 #[.val (.ref a1), .val (.int (0 : Int32)), .val (.ref b2)] [(.double d1), (.ref b2)])) _
      refine st10 _ ?_
      show Steps p.tables e below (T10.setTop (mkF m 17 #[.val (.ref a1), .val (.int (0 : Int32)), .val (.ref b2)] [])) _
      refine XS.aloadN X10.here hx rfl (hb hby d2_17) rfl rfl ?_
      exact kt)
  obtain ⟨fs, hr, hrun, hended, hW, hsame⟩ := X10.leave (v := some (.ref b2)) (fun h => by rw [Bd.returns] at h; cases h)
  refine ⟨_, _, pre13 _ ?_, hrun, hended, _, _, rfl, ?_, ⟨_, rfl⟩, hW, hsame.mono (by decide) (by decide)⟩
  · show Steps p.tables e below (T10.setTop (mkF m 18 #[.val (.ref a1), .val (.int (0 : Int32)), .val (.ref b2)] [(.ref b2)])) _
    exact own_retR X10 hx Bd.returns rfl (hb hby d2_18) hr
  · show QfitN0 Z a1 d1 kk h0 n0 _ T10.heap _
    exact ⟨b2, k2, rfl, N10, k12, sz_b2, x10_0⟩
theorem ef_fill1 (m : MethodId) (a1 : Addr) (d1 : UInt64) : entryFrame m #[(.ref a1), (.double d1)] 5 = mkF m 0 #[.val (.ref a1), .val (.double d1), .second, .unset, .unset] [] := by first | (simp [entryFrame, mkF, argsToLocals, Value.category]; done) | rfl
theorem d3_12 : decode jdk_65_method_113_code 12 = .ok (.aload_n 0, 1) := by decide +kernel
theorem d3_13 : decode jdk_65_method_113_code 13 = .ok (.iload_n 3, 1) := by decide +kernel
theorem d3_14 : decode jdk_65_method_113_code 14 = .ok (.dload_n 1, 1) := by decide +kernel
theorem d3_15 : decode jdk_65_method_113_code 15 = .ok (.dastore, 1) := by decide +kernel
theorem d3_16 : decode jdk_65_method_113_code 16 = .ok (.iinc 3 1, 3) := by decide +kernel
theorem d3_19 : decode jdk_65_method_113_code 19 = .ok (.goto (-13), 3) := by decide +kernel
def Qfill1 (Z : State) (a1 : Addr) (d1 : UInt64) (kk : ClassId) (h0 : Heap) (n0 : Nat) (v : Option Value) (h : Heap) (L : List Loc) : Prop := v = none ∧ Fr n0 L ∧ Keep h0 h [a1] ∧ (Arv Z h a1 kk .double (1 : Int32) [(.double d1)] (.double (0 : UInt64)))
set_option maxRecDepth 65536 in
set_option maxHeartbeats 40000000 in
theorem rmfill1 (l : Launch) (Z : State) (a0 : Array Value) (hw : ∀ d ∈ tables_1, d.before a0 Z = true) (ws : List Jvm.Cond) (a1 : Addr) (d1 : UInt64) (kk : ClassId) (h0 : Heap) (n0 : Nat) (Z0 : n0 ≤ h0.size) (P_V_a1 : Arv Z h0 a1 kk .double (1 : Int32) [(.double (0 : UInt64))] (.double (0 : UInt64))) (P_G_a1 : n0 ≤ a1) :
    MetFree l (⟨"java/util/Arrays", "fill", "([DD)V"⟩ : MethodName) (head1 (Jvm.Cond.code (⟨"java/util/Arrays", "fill", "([DD)V"⟩ : MethodName) jdk_65_method_113_code 5 none :: ws) ({ frames := 0, cells := 0, slots := 0, locals := 0 } : Room)) (fun a U => a = #[(.ref a1), (.double d1)] ∧ Z.Warmed39 U.vm ∧ U.heap = h0) (fun _ _ _ _ _ => True) (fun _ U o U' => ∃ v L, o = .returned v ∧ Qfill1 Z a1 d1 kk h0 n0 v U'.heap L ∧ FrameEnd U o U' L ({ frames := 0, cells := 0, slots := 0, locals := 0 } : Room).cells ({ frames := 0, cells := 0, slots := 0, locals := 0 } : Room).slots) := by
  refine MetFree.of_bodySF (plainFor_of_name pn_java_util_Arrays) hisR ?_
  intro p e s m args below meth c s₁ Bd hml0 hP hK
  obtain ⟨rfl, hZ, hh⟩ := hP
  have hx := Bd.exec
  have hby := Bd.bytes
  have hml : c.maxLocals = 5 := hml0
  have hown : s.vm.findClass "java/util/Arrays" = some m.cls := findClass_of_methodNamed Bd.named
  have hnm := (name_of_methodNamed Bd.named Bd.method).1
  have X0 : Stand p l e ({ frames := 0, cells := 0, slots := 0, locals := 0 } : Room) s m #[(.ref a1), (.double d1)] below meth c s₁ [] 0 0 := Stand.of_body Bd
  have e0 : s₁.heap = h0 := by rw [← hh, Bd.state]; rfl
  have N0 := Fr.nil n0
  have pre0 : ∀ t, Steps p.tables e below (s₁.setTop (mkF m 0 #[.val (.ref a1), .val (.double d1), .second, .unset, .unset] [])) t → Steps p.tables e below (s₁.setTop (entryFrame m #[(.ref a1), (.double d1)] 5)) t := fun t k => castTop (ef_fill1 m a1 d1) k
  obtain ⟨cl1, Ar1, Q1, S1, M1, H1, G1⟩ := id P_V_a1
  obtain ⟨cl2, Ar2, Q2, S2, M2, H2, G2⟩ := id P_V_a1
  have in3 : ¬ ((0 : Int32) < 0 ∨ cl2.slots.size ≤ ((0 : Int32)).toNatClampNeg) := inb_of S2 ⟨by decide, by decide⟩
  obtain ⟨T4, h4, X4, e4, W4, st4⟩ := stD X0 hx hZ e0 Ar2 (j := (0 : Int32)) in3 (g := (mkF m 15 #[.val (.ref a1), .val (.double d1), .second, .val (.int (0 : Int32)), .val (.int (1 : Int32))] [(.double d1), (.int (0 : Int32)), (.ref a1)])) rfl rfl (hb hby d3_15)
  have z5 : n0 ≤ h4.size := Nat.le_trans Z0 (Keep.of_wr W4).1
  have k6 : Keep h0 h4 [a1] := (Keep.refl h0 [a1]).wr W4 (Or.inl (List.mem_of_getElem? (i := 0) rfl))
  have V4 : Arv Z h4 a1 kk .double (1 : Int32) [(.double d1)] (.double (0 : UInt64)) := Arv.set Ar2 Q2 S2 M2 H2 G2 rfl W4 0 rfl (Nat.le_of_ble_eq_true rfl)
  have N4 : Fr n0 _ := Fr.snoc X4 N0 P_G_a1
  have pre7 : ∀ t, Steps p.tables e below (T4.setTop (mkF m 22 #[.val (.ref a1), .val (.double d1), .second, .val (.int (1 : Int32)), .val (.int (1 : Int32))] [])) t → Steps p.tables e below (s₁.setTop (entryFrame m #[(.ref a1), (.double d1)] 5)) t := fun t kt => pre0 t (by
      show Steps p.tables e below (s₁.setTop (mkF m 0 #[.val (.ref a1), .val (.double d1), .second, .unset, .unset] [])) _
      refine XS.iconst X0.here hx rfl (hb hby d3_0) ?_
      show Steps p.tables e below (s₁.setTop (mkF m 1 #[.val (.ref a1), .val (.double d1), .second, .unset, .unset] [(.int (0 : Int32))])) _
      refine XS.istoreN X0.here hx rfl (hb hby d3_1) rfl (l' := #[.val (.ref a1), .val (.double d1), .second, .val (.int (0 : Int32)), .unset]) rfl ?_
      show Steps p.tables e below (s₁.setTop (mkF m 2 #[.val (.ref a1), .val (.double d1), .second, .val (.int (0 : Int32)), .unset] [])) _
      refine XS.aloadN X0.here hx rfl (hb hby d3_2) rfl rfl ?_
      show Steps p.tables e below (s₁.setTop (mkF m 3 #[.val (.ref a1), .val (.double d1), .second, .val (.int (0 : Int32)), .unset] [(.ref a1)])) _
      refine X0.arraylength hx (cell := cl1) (by rw [e0]; exact Ar1.1) (State.isArrayOf_alike hZ.alike Ar1.2.1) (g := (mkF m 3 #[.val (.ref a1), .val (.double d1), .second, .val (.int (0 : Int32)), .unset] [(.ref a1)])) rfl rfl (hb hby d3_3) _ ?_
      rw [len_of S1 M1]
      show Steps p.tables e below (s₁.setTop (mkF m 4 #[.val (.ref a1), .val (.double d1), .second, .val (.int (0 : Int32)), .unset] [(.int (1 : Int32))])) _
      refine XS.istore X0.here hx rfl (hb hby d3_4) rfl (l' := #[.val (.ref a1), .val (.double d1), .second, .val (.int (0 : Int32)), .val (.int (1 : Int32))]) rfl ?_
      show Steps p.tables e below (s₁.setTop (mkF m 6 #[.val (.ref a1), .val (.double d1), .second, .val (.int (0 : Int32)), .val (.int (1 : Int32))] [])) _
      refine XS.iloadN X0.here hx rfl (hb hby d3_6) rfl ?_
      show Steps p.tables e below (s₁.setTop (mkF m 7 #[.val (.ref a1), .val (.double d1), .second, .val (.int (0 : Int32)), .val (.int (1 : Int32))] [(.int (0 : Int32))])) _
      refine XS.iload X0.here hx rfl (hb hby d3_7) rfl ?_
      show Steps p.tables e below (s₁.setTop (mkF m 9 #[.val (.ref a1), .val (.double d1), .second, .val (.int (0 : Int32)), .val (.int (1 : Int32))] [(.int (1 : Int32)), (.int (0 : Int32))])) _
      refine XS.icmpNo X0.here hx rfl (hb hby d3_9) rfl (tlt ((by decide) : (0 : Int32) < (1 : Int32))).2.1 ?_
      show Steps p.tables e below (s₁.setTop (mkF m 12 #[.val (.ref a1), .val (.double d1), .second, .val (.int (0 : Int32)), .val (.int (1 : Int32))] [])) _
      refine XS.aloadN X0.here hx rfl (hb hby d3_12) rfl rfl ?_
      show Steps p.tables e below (s₁.setTop (mkF m 13 #[.val (.ref a1), .val (.double d1), .second, .val (.int (0 : Int32)), .val (.int (1 : Int32))] [(.ref a1)])) _
      refine XS.iloadN X0.here hx rfl (hb hby d3_13) rfl ?_
      show Steps p.tables e below (s₁.setTop (mkF m 14 #[.val (.ref a1), .val (.double d1), .second, .val (.int (0 : Int32)), .val (.int (1 : Int32))] [(.int (0 : Int32)), (.ref a1)])) _
      refine XS.dloadN X0.here hx rfl (hb hby d3_14) rfl ?_
      show Steps p.tables e below (s₁.setTop (mkF m 15 #[.val (.ref a1), .val (.double d1), .second, .val (.int (0 : Int32)), .val (.int (1 : Int32))] [(.double d1), (.int (0 : Int32)), (.ref a1)])) _
      refine st4 _ ?_
      show Steps p.tables e below (T4.setTop (mkF m 16 #[.val (.ref a1), .val (.double d1), .second, .val (.int (0 : Int32)), .val (.int (1 : Int32))] [])) _
      refine XS.iinc X4.here hx rfl (hb hby d3_16) rfl (l' := #[.val (.ref a1), .val (.double d1), .second, .val (.int (1 : Int32)), .val (.int (1 : Int32))]) rfl ?_
      show Steps p.tables e below (T4.setTop (mkF m 19 #[.val (.ref a1), .val (.double d1), .second, .val (.int (1 : Int32)), .val (.int (1 : Int32))] [])) _
      refine XS.goto X4.here hx rfl (pc0 := 19) (pc' := 6) rfl (hb hby d3_19) (by decide) (by decide) ?_
      show Steps p.tables e below (T4.setTop (mkF m 6 #[.val (.ref a1), .val (.double d1), .second, .val (.int (1 : Int32)), .val (.int (1 : Int32))] [])) _
      refine XS.iloadN X4.here hx rfl (hb hby d3_6) rfl ?_
      show Steps p.tables e below (T4.setTop (mkF m 7 #[.val (.ref a1), .val (.double d1), .second, .val (.int (1 : Int32)), .val (.int (1 : Int32))] [(.int (1 : Int32))])) _
      refine XS.iload X4.here hx rfl (hb hby d3_7) rfl ?_
      show Steps p.tables e below (T4.setTop (mkF m 9 #[.val (.ref a1), .val (.double d1), .second, .val (.int (1 : Int32)), .val (.int (1 : Int32))] [(.int (1 : Int32)), (.int (1 : Int32))])) _
      refine XS.icmpYes X4.here hx rfl (pc0 := 9) (pc' := 22) rfl (hb hby d3_9) rfl (flt ((by decide) : ¬ ((1 : Int32) < (1 : Int32)))).2.1 (by decide) (by decide) ?_
      exact kt)
  obtain ⟨fs, hr, hrun, hended, hW, hsame⟩ := X4.leave (v := none) (fun _ => rfl)
  refine ⟨_, _, pre7 _ ?_, hrun, hended, _, _, rfl, ?_, ⟨_, rfl⟩, hW, hsame.mono (by decide) (by decide)⟩
  · show Steps p.tables e below (T4.setTop (mkF m 22 #[.val (.ref a1), .val (.double d1), .second, .val (.int (1 : Int32)), .val (.int (1 : Int32))] [])) _
    exact X4.returnOut hx Bd.returns (hb hby d3_22) hr
  · show Qfill1 Z a1 d1 kk h0 n0 _ T4.heap _
    rw [e4]
    exact ⟨rfl, N4, k6, V4⟩
theorem ef_fitN1 (m : MethodId) (a1 : Addr) : entryFrame m #[(.ref a1), (.int (1 : Int32))] 3 = mkF m 0 #[.val (.ref a1), .val (.int (1 : Int32)), .unset] [] := by first | (simp [entryFrame, mkF, argsToLocals, Value.category]; done) | rfl
def QfitN1 (Z : State) (a1 : Addr) (d1 : UInt64) (kk : ClassId) (h0 : Heap) (n0 : Nat) (v : Option Value) (h : Heap) (L : List Loc) : Prop := ∃ (b : Addr) (kb : ClassId), v = some (.ref b) ∧ Fr n0 L ∧ Keep h0 h [] ∧ (h0.size ≤ b) ∧ (Arv Z h b kb .double (1 : Int32) [(.double d1)] (.double (0 : UInt64)))
set_option maxRecDepth 65536 in
set_option maxHeartbeats 40000000 in
theorem rmfitN1 (l : Launch) (Z : State) (a0 : Array Value) (hw : ∀ d ∈ tables_1, d.before a0 Z = true) (ws : List Jvm.Cond) (a1 : Addr) (d1 : UInt64) (kk : ClassId) (h0 : Heap) (n0 : Nat) (Z0 : n0 ≤ h0.size) (P_V_a1 : Arv Z h0 a1 kk .double (1 : Int32) [(.double d1)] (.double (0 : UInt64))) :
    MetFree l (⟨"com/example/manyfront/manyfront/cli/ReferencePoint", "fit", "([DI)[D"⟩ : MethodName) (head1 (Jvm.Cond.code (⟨"com/example/manyfront/manyfront/cli/ReferencePoint", "fit", "([DI)[D"⟩ : MethodName) prog_10_method_2_code 3 (some (.array .double)) :: ws) ({ frames := 1, cells := 1, slots := 1, locals := 16 } : Room)) (fun a U => a = #[(.ref a1), (.int (1 : Int32))] ∧ Z.Warmed39 U.vm ∧ U.heap = h0) (fun _ _ _ _ _ => True) (fun _ U o U' => ∃ v L, o = .returned v ∧ QfitN1 Z a1 d1 kk h0 n0 v U'.heap L ∧ FrameEnd U o U' L ({ frames := 1, cells := 1, slots := 1, locals := 16 } : Room).cells ({ frames := 1, cells := 1, slots := 1, locals := 16 } : Room).slots) := by
  refine MetFree.of_bodySF (plainFor_of_name pn_com_example_manyfront_manyfront_cli_ReferencePoint) hisR ?_
  intro p e s m args below meth c s₁ Bd hml0 hP hK
  obtain ⟨rfl, hZ, hh⟩ := hP
  have hx := Bd.exec
  have hby := Bd.bytes
  have hml : c.maxLocals = 3 := hml0
  have hown : s.vm.findClass "com/example/manyfront/manyfront/cli/ReferencePoint" = some m.cls := findClass_of_methodNamed Bd.named
  have hnm := (name_of_methodNamed Bd.named Bd.method).1
  have X0 : Stand p l e ({ frames := 1, cells := 1, slots := 1, locals := 16 } : Room) s m #[(.ref a1), (.int (1 : Int32))] below meth c s₁ [] 0 0 := Stand.of_body Bd
  have e0 : s₁.heap = h0 := by rw [← hh, Bd.state]; rfl
  have N0 := Fr.nil n0
  have pre0 : ∀ t, Steps p.tables e below (s₁.setTop (mkF m 0 #[.val (.ref a1), .val (.int (1 : Int32)), .unset] [])) t → Steps p.tables e below (s₁.setTop (entryFrame m #[(.ref a1), (.int (1 : Int32))] 3)) t := fun t k => castTop (ef_fitN1 m a1) k
  obtain ⟨cl1, Ar1, Q1, S1, M1, H1, G1⟩ := id P_V_a1
  obtain ⟨T2, h2, k2, X2, e2, E2, A2, st2⟩ := newP X0 hx hZ (hw _ (List.mem_of_getElem? (i := 4) rfl)) e0 (g := (mkF m 7 #[.val (.ref a1), .val (.int (1 : Int32)), .unset] [(.int (1 : Int32))])) rfl (hb hby d2_7) rfl (by decide) (cap := 1) (by decide) (by decide) (by decide) (by decide)
  obtain ⟨b2, g2⟩ : ∃ z, z = h0.size := ⟨_, rfl⟩
  rw [← g2] at A2 st2
  have ne3 : a1 ≠ b2 := Nat.ne_of_lt (Nat.lt_of_lt_of_le P_V_a1.lt (Nat.le_of_eq g2.symm))
  have g_b2 : n0 ≤ b2 := Nat.le_trans Z0 (Nat.le_of_eq g2.symm)
  have sz_b2 : h0.size ≤ b2 := Nat.le_trans (Keep.refl h0 []).1 (Nat.le_of_eq g2.symm)
  have z4 : n0 ≤ h2.size := Nat.le_trans Z0 E2.1
  have k5 : Keep h0 h2 [] := (Keep.refl h0 []).ext E2
  have V2 : Arv Z h2 b2 k2 .double (1 : Int32) [(.double (0 : UInt64))] (.double (0 : UInt64)) := (Arv.new A2 (by decide)).pad (pad_rep [] (.double (0 : UInt64)) 1)
  have f6 : Arv Z h2 a1 kk .double (1 : Int32) [(.double d1)] (.double (0 : UInt64)) := (P_V_a1.ext E2)
  obtain ⟨cl7, Ar7, Q7, S7, M7, H7, G7⟩ := id f6
  have in8 : ¬ ((0 : Int32) < 0 ∨ cl7.slots.size ≤ ((0 : Int32)).toNatClampNeg) := inb_of S7 ⟨by decide, by decide⟩
  have at9 : cl7.slots[((0 : Int32)).toNatClampNeg]? = some (.double d1) := H7 0 (by rw [S7]; decide)
  obtain ⟨_, _, ⟨T10, L10, kk10, nn10⟩, -, X10, ⟨Lc10, hQ10, l10, y10, z10⟩, st10⟩ := Jvm.LawKit.callS X2 hx (y := (⟨"java/util/Arrays", "fill", "([DD)V"⟩ : MethodName)) hown (mvT hZ (hw _ (List.mem_of_getElem? (i := 10) rfl))) (mvT hZ (hw _ (List.mem_of_getElem? (i := 11) rfl))) (mvT hZ (hw _ (List.mem_of_getElem? (i := 12) rfl))) (mvT hZ (hw _ (List.mem_of_getElem? (i := 13) rfl))) (by decide) (backOf (W := 0) (rmfill1 l Z a0 hw [] b2 d1 k2 h2 n0 z4 V2 g_b2) hZ (hw _ (List.mem_of_getElem? (i := 13) rfl)) (hw _ (List.mem_of_getElem? (i := 12) rfl)) (by decide) (by decide)) (g := (mkF m 14 #[.val (.ref a1), .val (.int (1 : Int32)), .val (.ref b2)] [(.double d1), (.ref b2)])) rfl (by rw [hml]; rfl) (argsL := [(.ref b2), (.double d1)]) (rest := []) (lenOf pd__28_5bDD_29V rfl) rfl (by show 2 * 0 + _ ≤ _; exact Nat.le_of_eq rfl) (hb hby d2_14) (fun _ _ => ⟨rfl, e2, (by decide : 1 + 0 ≤ _), (by decide : 1 + 0 ≤ _)⟩)
  dsimp only [Pt.U, Pt.locs, Pt.cells, Pt.slots] at X10 l10 y10 z10 st10 hQ10
  subst l10 y10 z10
  obtain ⟨rfl, N10q, K10, x10_0⟩ := hQ10
  have N10 := Fr.app N0 N10q
  have z11 : n0 ≤ T10.heap.size := Nat.le_trans z4 K10.1
  have k12 : Keep h0 T10.heap [] := k5.trans K10 (own_wmc (Or.inr sz_b2) own_wm0)
  have pre13 : ∀ t, Steps p.tables e below (T10.setTop (mkF m 18 #[.val (.ref a1), .val (.int (1 : Int32)), .val (.ref b2)] [(.ref b2)])) t → Steps p.tables e below (s₁.setTop (entryFrame m #[(.ref a1), (.int (1 : Int32))] 3)) t := fun t kt => pre0 t (by
      show Steps p.tables e below (s₁.setTop (mkF m 0 #[.val (.ref a1), .val (.int (1 : Int32)), .unset] [])) _
      refine XS.aloadN X0.here hx rfl (hb hby d2_0) rfl rfl ?_
      show Steps p.tables e below (s₁.setTop (mkF m 1 #[.val (.ref a1), .val (.int (1 : Int32)), .unset] [(.ref a1)])) _
      refine X0.arraylength hx (cell := cl1) (by rw [e0]; exact Ar1.1) (State.isArrayOf_alike hZ.alike Ar1.2.1) (g := (mkF m 1 #[.val (.ref a1), .val (.int (1 : Int32)), .unset] [(.ref a1)])) rfl rfl (hb hby d2_1) _ ?_
      rw [len_of S1 M1]
      show Steps p.tables e below (s₁.setTop (mkF m 2 #[.val (.ref a1), .val (.int (1 : Int32)), .unset] [(.int (1 : Int32))])) _
      refine XS.iconst X0.here hx rfl (hb hby d2_2) ?_
      show Steps p.tables e below (s₁.setTop (mkF m 3 #[.val (.ref a1), .val (.int (1 : Int32)), .unset] [(.int (1 : Int32)), (.int (1 : Int32))])) _
      refine XS.icmpNo X0.here hx rfl (hb hby d2_3) rfl (teq ((by decide) : (1 : Int32) = (1 : Int32))).2 ?_
      show Steps p.tables e below (s₁.setTop (mkF m 6 #[.val (.ref a1), .val (.int (1 : Int32)), .unset] [])) _
      refine XS.iloadN X0.here hx rfl (hb hby d2_6) rfl ?_
      show Steps p.tables e below (s₁.setTop (mkF m 7 #[.val (.ref a1), .val (.int (1 : Int32)), .unset] [(.int (1 : Int32))])) _
      refine st2 _ ?_
      show Steps p.tables e below (T2.setTop (mkF m 9 #[.val (.ref a1), .val (.int (1 : Int32)), .unset] [(.ref b2)])) _
      refine XS.astoreN X2.here hx rfl (hb hby d2_9) rfl rfl (l' := #[.val (.ref a1), .val (.int (1 : Int32)), .val (.ref b2)]) rfl ?_
      show Steps p.tables e below (T2.setTop (mkF m 10 #[.val (.ref a1), .val (.int (1 : Int32)), .val (.ref b2)] [])) _
      refine XS.aloadN X2.here hx rfl (hb hby d2_10) rfl rfl ?_
      show Steps p.tables e below (T2.setTop (mkF m 11 #[.val (.ref a1), .val (.int (1 : Int32)), .val (.ref b2)] [(.ref b2)])) _
      refine XS.aloadN X2.here hx rfl (hb hby d2_11) rfl rfl ?_
      show Steps p.tables e below (T2.setTop (mkF m 12 #[.val (.ref a1), .val (.int (1 : Int32)), .val (.ref b2)] [(.ref a1), (.ref b2)])) _
      refine XS.iconst X2.here hx rfl (hb hby d2_12) ?_
      show Steps p.tables e below (T2.setTop (mkF m 13 #[.val (.ref a1), .val (.int (1 : Int32)), .val (.ref b2)] [(.int (0 : Int32)), (.ref a1), (.ref b2)])) _
      refine X2.daload hx (j := (0 : Int32)) (v := (.double d1)) (by rw [e2]; exact Ar7.1) (State.isArrayOf_alike hZ.alike Ar7.2.1) Ar7.2.2 in8 at9 (g := (mkF m 13 #[.val (.ref a1), .val (.int (1 : Int32)), .val (.ref b2)] [(.int (0 : Int32)), (.ref a1), (.ref b2)])) rfl rfl (hb hby d2_13) _ ?_
      show Steps p.tables e below (T2.setTop (mkF m 14 #[.val (.ref a1), .val (.int (1 : Int32)), .val (.ref b2)] [(.double d1), (.ref b2)])) _
      refine st10 _ ?_
      show Steps p.tables e below (T10.setTop (mkF m 17 #[.val (.ref a1), .val (.int (1 : Int32)), .val (.ref b2)] [])) _
      refine XS.aloadN X10.here hx rfl (hb hby d2_17) rfl rfl ?_
      exact kt)
  obtain ⟨fs, hr, hrun, hended, hW, hsame⟩ := X10.leave (v := some (.ref b2)) (fun h => by rw [Bd.returns] at h; cases h)
  refine ⟨_, _, pre13 _ ?_, hrun, hended, _, _, rfl, ?_, ⟨_, rfl⟩, hW, hsame.mono (by decide) (by decide)⟩
  · show Steps p.tables e below (T10.setTop (mkF m 18 #[.val (.ref a1), .val (.int (1 : Int32)), .val (.ref b2)] [(.ref b2)])) _
    exact own_retR X10 hx Bd.returns rfl (hb hby d2_18) hr
  · show QfitN1 Z a1 d1 kk h0 n0 _ T10.heap _
    exact ⟨b2, k2, rfl, N10, k12, sz_b2, x10_0⟩
theorem ef_fill2 (m : MethodId) (a1 : Addr) (d1 : UInt64) : entryFrame m #[(.ref a1), (.double d1)] 5 = mkF m 0 #[.val (.ref a1), .val (.double d1), .second, .unset, .unset] [] := by first | (simp [entryFrame, mkF, argsToLocals, Value.category]; done) | rfl
def Qfill2 (Z : State) (a1 : Addr) (d1 : UInt64) (kk : ClassId) (h0 : Heap) (n0 : Nat) (v : Option Value) (h : Heap) (L : List Loc) : Prop := v = none ∧ Fr n0 L ∧ Keep h0 h [a1] ∧ (Arv Z h a1 kk .double (2 : Int32) [(.double d1), (.double d1)] (.double (0 : UInt64)))
set_option maxRecDepth 65536 in
set_option maxHeartbeats 40000000 in
theorem rmfill2 (l : Launch) (Z : State) (a0 : Array Value) (hw : ∀ d ∈ tables_1, d.before a0 Z = true) (ws : List Jvm.Cond) (a1 : Addr) (d1 : UInt64) (kk : ClassId) (h0 : Heap) (n0 : Nat) (Z0 : n0 ≤ h0.size) (P_V_a1 : Arv Z h0 a1 kk .double (2 : Int32) [(.double (0 : UInt64)), (.double (0 : UInt64))] (.double (0 : UInt64))) (P_G_a1 : n0 ≤ a1) :
    MetFree l (⟨"java/util/Arrays", "fill", "([DD)V"⟩ : MethodName) (head1 (Jvm.Cond.code (⟨"java/util/Arrays", "fill", "([DD)V"⟩ : MethodName) jdk_65_method_113_code 5 none :: ws) ({ frames := 0, cells := 0, slots := 0, locals := 0 } : Room)) (fun a U => a = #[(.ref a1), (.double d1)] ∧ Z.Warmed39 U.vm ∧ U.heap = h0) (fun _ _ _ _ _ => True) (fun _ U o U' => ∃ v L, o = .returned v ∧ Qfill2 Z a1 d1 kk h0 n0 v U'.heap L ∧ FrameEnd U o U' L ({ frames := 0, cells := 0, slots := 0, locals := 0 } : Room).cells ({ frames := 0, cells := 0, slots := 0, locals := 0 } : Room).slots) := by
  refine MetFree.of_bodySF (plainFor_of_name pn_java_util_Arrays) hisR ?_
  intro p e s m args below meth c s₁ Bd hml0 hP hK
  obtain ⟨rfl, hZ, hh⟩ := hP
  have hx := Bd.exec
  have hby := Bd.bytes
  have hml : c.maxLocals = 5 := hml0
  have hown : s.vm.findClass "java/util/Arrays" = some m.cls := findClass_of_methodNamed Bd.named
  have hnm := (name_of_methodNamed Bd.named Bd.method).1
  have X0 : Stand p l e ({ frames := 0, cells := 0, slots := 0, locals := 0 } : Room) s m #[(.ref a1), (.double d1)] below meth c s₁ [] 0 0 := Stand.of_body Bd
  have e0 : s₁.heap = h0 := by rw [← hh, Bd.state]; rfl
  have N0 := Fr.nil n0
  have pre0 : ∀ t, Steps p.tables e below (s₁.setTop (mkF m 0 #[.val (.ref a1), .val (.double d1), .second, .unset, .unset] [])) t → Steps p.tables e below (s₁.setTop (entryFrame m #[(.ref a1), (.double d1)] 5)) t := fun t k => castTop (ef_fill2 m a1 d1) k
  obtain ⟨cl1, Ar1, Q1, S1, M1, H1, G1⟩ := id P_V_a1
  obtain ⟨cl2, Ar2, Q2, S2, M2, H2, G2⟩ := id P_V_a1
  have in3 : ¬ ((0 : Int32) < 0 ∨ cl2.slots.size ≤ ((0 : Int32)).toNatClampNeg) := inb_of S2 ⟨by decide, by decide⟩
  obtain ⟨T4, h4, X4, e4, W4, st4⟩ := stD X0 hx hZ e0 Ar2 (j := (0 : Int32)) in3 (g := (mkF m 15 #[.val (.ref a1), .val (.double d1), .second, .val (.int (0 : Int32)), .val (.int (2 : Int32))] [(.double d1), (.int (0 : Int32)), (.ref a1)])) rfl rfl (hb hby d3_15)
  have z5 : n0 ≤ h4.size := Nat.le_trans Z0 (Keep.of_wr W4).1
  have k6 : Keep h0 h4 [a1] := (Keep.refl h0 [a1]).wr W4 (Or.inl (List.mem_of_getElem? (i := 0) rfl))
  have V4 : Arv Z h4 a1 kk .double (2 : Int32) [(.double d1), (.double (0 : UInt64))] (.double (0 : UInt64)) := Arv.set Ar2 Q2 S2 M2 H2 G2 rfl W4 0 rfl (Nat.le_of_ble_eq_true rfl)
  have N4 : Fr n0 _ := Fr.snoc X4 N0 P_G_a1
  obtain ⟨cl7, Ar7, Q7, S7, M7, H7, G7⟩ := id V4
  have in8 : ¬ ((1 : Int32) < 0 ∨ cl7.slots.size ≤ ((1 : Int32)).toNatClampNeg) := inb_of S7 ⟨by decide, by decide⟩
  obtain ⟨T9, h9, X9, e9, W9, st9⟩ := stD X4 hx hZ e4 Ar7 (j := (1 : Int32)) in8 (g := (mkF m 15 #[.val (.ref a1), .val (.double d1), .second, .val (.int (1 : Int32)), .val (.int (2 : Int32))] [(.double d1), (.int (1 : Int32)), (.ref a1)])) rfl rfl (hb hby d3_15)
  have z10 : n0 ≤ h9.size := Nat.le_trans z5 (Keep.of_wr W9).1
  have k11 : Keep h0 h9 [a1] := k6.wr W9 (Or.inl (List.mem_of_getElem? (i := 0) rfl))
  have V9 : Arv Z h9 a1 kk .double (2 : Int32) [(.double d1), (.double d1)] (.double (0 : UInt64)) := Arv.set Ar7 Q7 S7 M7 H7 G7 rfl W9 1 rfl (Nat.le_of_ble_eq_true rfl)
  have N9 : Fr n0 _ := Fr.snoc X9 N4 P_G_a1
  have pre12 : ∀ t, Steps p.tables e below (T9.setTop (mkF m 22 #[.val (.ref a1), .val (.double d1), .second, .val (.int (2 : Int32)), .val (.int (2 : Int32))] [])) t → Steps p.tables e below (s₁.setTop (entryFrame m #[(.ref a1), (.double d1)] 5)) t := fun t kt => pre0 t (by
      show Steps p.tables e below (s₁.setTop (mkF m 0 #[.val (.ref a1), .val (.double d1), .second, .unset, .unset] [])) _
      refine XS.iconst X0.here hx rfl (hb hby d3_0) ?_
      show Steps p.tables e below (s₁.setTop (mkF m 1 #[.val (.ref a1), .val (.double d1), .second, .unset, .unset] [(.int (0 : Int32))])) _
      refine XS.istoreN X0.here hx rfl (hb hby d3_1) rfl (l' := #[.val (.ref a1), .val (.double d1), .second, .val (.int (0 : Int32)), .unset]) rfl ?_
      show Steps p.tables e below (s₁.setTop (mkF m 2 #[.val (.ref a1), .val (.double d1), .second, .val (.int (0 : Int32)), .unset] [])) _
      refine XS.aloadN X0.here hx rfl (hb hby d3_2) rfl rfl ?_
      show Steps p.tables e below (s₁.setTop (mkF m 3 #[.val (.ref a1), .val (.double d1), .second, .val (.int (0 : Int32)), .unset] [(.ref a1)])) _
      refine X0.arraylength hx (cell := cl1) (by rw [e0]; exact Ar1.1) (State.isArrayOf_alike hZ.alike Ar1.2.1) (g := (mkF m 3 #[.val (.ref a1), .val (.double d1), .second, .val (.int (0 : Int32)), .unset] [(.ref a1)])) rfl rfl (hb hby d3_3) _ ?_
      rw [len_of S1 M1]
      show Steps p.tables e below (s₁.setTop (mkF m 4 #[.val (.ref a1), .val (.double d1), .second, .val (.int (0 : Int32)), .unset] [(.int (2 : Int32))])) _
      refine XS.istore X0.here hx rfl (hb hby d3_4) rfl (l' := #[.val (.ref a1), .val (.double d1), .second, .val (.int (0 : Int32)), .val (.int (2 : Int32))]) rfl ?_
      show Steps p.tables e below (s₁.setTop (mkF m 6 #[.val (.ref a1), .val (.double d1), .second, .val (.int (0 : Int32)), .val (.int (2 : Int32))] [])) _
      refine XS.iloadN X0.here hx rfl (hb hby d3_6) rfl ?_
      show Steps p.tables e below (s₁.setTop (mkF m 7 #[.val (.ref a1), .val (.double d1), .second, .val (.int (0 : Int32)), .val (.int (2 : Int32))] [(.int (0 : Int32))])) _
      refine XS.iload X0.here hx rfl (hb hby d3_7) rfl ?_
      show Steps p.tables e below (s₁.setTop (mkF m 9 #[.val (.ref a1), .val (.double d1), .second, .val (.int (0 : Int32)), .val (.int (2 : Int32))] [(.int (2 : Int32)), (.int (0 : Int32))])) _
      refine XS.icmpNo X0.here hx rfl (hb hby d3_9) rfl (tlt ((by decide) : (0 : Int32) < (2 : Int32))).2.1 ?_
      show Steps p.tables e below (s₁.setTop (mkF m 12 #[.val (.ref a1), .val (.double d1), .second, .val (.int (0 : Int32)), .val (.int (2 : Int32))] [])) _
      refine XS.aloadN X0.here hx rfl (hb hby d3_12) rfl rfl ?_
      show Steps p.tables e below (s₁.setTop (mkF m 13 #[.val (.ref a1), .val (.double d1), .second, .val (.int (0 : Int32)), .val (.int (2 : Int32))] [(.ref a1)])) _
      refine XS.iloadN X0.here hx rfl (hb hby d3_13) rfl ?_
      show Steps p.tables e below (s₁.setTop (mkF m 14 #[.val (.ref a1), .val (.double d1), .second, .val (.int (0 : Int32)), .val (.int (2 : Int32))] [(.int (0 : Int32)), (.ref a1)])) _
      refine XS.dloadN X0.here hx rfl (hb hby d3_14) rfl ?_
      show Steps p.tables e below (s₁.setTop (mkF m 15 #[.val (.ref a1), .val (.double d1), .second, .val (.int (0 : Int32)), .val (.int (2 : Int32))] [(.double d1), (.int (0 : Int32)), (.ref a1)])) _
      refine st4 _ ?_
      show Steps p.tables e below (T4.setTop (mkF m 16 #[.val (.ref a1), .val (.double d1), .second, .val (.int (0 : Int32)), .val (.int (2 : Int32))] [])) _
      refine XS.iinc X4.here hx rfl (hb hby d3_16) rfl (l' := #[.val (.ref a1), .val (.double d1), .second, .val (.int (1 : Int32)), .val (.int (2 : Int32))]) rfl ?_
      show Steps p.tables e below (T4.setTop (mkF m 19 #[.val (.ref a1), .val (.double d1), .second, .val (.int (1 : Int32)), .val (.int (2 : Int32))] [])) _
      refine XS.goto X4.here hx rfl (pc0 := 19) (pc' := 6) rfl (hb hby d3_19) (by decide) (by decide) ?_
      show Steps p.tables e below (T4.setTop (mkF m 6 #[.val (.ref a1), .val (.double d1), .second, .val (.int (1 : Int32)), .val (.int (2 : Int32))] [])) _
      refine XS.iloadN X4.here hx rfl (hb hby d3_6) rfl ?_
      show Steps p.tables e below (T4.setTop (mkF m 7 #[.val (.ref a1), .val (.double d1), .second, .val (.int (1 : Int32)), .val (.int (2 : Int32))] [(.int (1 : Int32))])) _
      refine XS.iload X4.here hx rfl (hb hby d3_7) rfl ?_
      show Steps p.tables e below (T4.setTop (mkF m 9 #[.val (.ref a1), .val (.double d1), .second, .val (.int (1 : Int32)), .val (.int (2 : Int32))] [(.int (2 : Int32)), (.int (1 : Int32))])) _
      refine XS.icmpNo X4.here hx rfl (hb hby d3_9) rfl (tlt ((by decide) : (1 : Int32) < (2 : Int32))).2.1 ?_
      show Steps p.tables e below (T4.setTop (mkF m 12 #[.val (.ref a1), .val (.double d1), .second, .val (.int (1 : Int32)), .val (.int (2 : Int32))] [])) _
      refine XS.aloadN X4.here hx rfl (hb hby d3_12) rfl rfl ?_
      show Steps p.tables e below (T4.setTop (mkF m 13 #[.val (.ref a1), .val (.double d1), .second, .val (.int (1 : Int32)), .val (.int (2 : Int32))] [(.ref a1)])) _
      refine XS.iloadN X4.here hx rfl (hb hby d3_13) rfl ?_
      show Steps p.tables e below (T4.setTop (mkF m 14 #[.val (.ref a1), .val (.double d1), .second, .val (.int (1 : Int32)), .val (.int (2 : Int32))] [(.int (1 : Int32)), (.ref a1)])) _
      refine XS.dloadN X4.here hx rfl (hb hby d3_14) rfl ?_
      show Steps p.tables e below (T4.setTop (mkF m 15 #[.val (.ref a1), .val (.double d1), .second, .val (.int (1 : Int32)), .val (.int (2 : Int32))] [(.double d1), (.int (1 : Int32)), (.ref a1)])) _
      refine st9 _ ?_
      show Steps p.tables e below (T9.setTop (mkF m 16 #[.val (.ref a1), .val (.double d1), .second, .val (.int (1 : Int32)), .val (.int (2 : Int32))] [])) _
      refine XS.iinc X9.here hx rfl (hb hby d3_16) rfl (l' := #[.val (.ref a1), .val (.double d1), .second, .val (.int (2 : Int32)), .val (.int (2 : Int32))]) rfl ?_
      show Steps p.tables e below (T9.setTop (mkF m 19 #[.val (.ref a1), .val (.double d1), .second, .val (.int (2 : Int32)), .val (.int (2 : Int32))] [])) _
      refine XS.goto X9.here hx rfl (pc0 := 19) (pc' := 6) rfl (hb hby d3_19) (by decide) (by decide) ?_
      show Steps p.tables e below (T9.setTop (mkF m 6 #[.val (.ref a1), .val (.double d1), .second, .val (.int (2 : Int32)), .val (.int (2 : Int32))] [])) _
      refine XS.iloadN X9.here hx rfl (hb hby d3_6) rfl ?_
      show Steps p.tables e below (T9.setTop (mkF m 7 #[.val (.ref a1), .val (.double d1), .second, .val (.int (2 : Int32)), .val (.int (2 : Int32))] [(.int (2 : Int32))])) _
      refine XS.iload X9.here hx rfl (hb hby d3_7) rfl ?_
      show Steps p.tables e below (T9.setTop (mkF m 9 #[.val (.ref a1), .val (.double d1), .second, .val (.int (2 : Int32)), .val (.int (2 : Int32))] [(.int (2 : Int32)), (.int (2 : Int32))])) _
      refine XS.icmpYes X9.here hx rfl (pc0 := 9) (pc' := 22) rfl (hb hby d3_9) rfl (flt ((by decide) : ¬ ((2 : Int32) < (2 : Int32)))).2.1 (by decide) (by decide) ?_
      exact kt)
  obtain ⟨fs, hr, hrun, hended, hW, hsame⟩ := X9.leave (v := none) (fun _ => rfl)
  refine ⟨_, _, pre12 _ ?_, hrun, hended, _, _, rfl, ?_, ⟨_, rfl⟩, hW, hsame.mono (by decide) (by decide)⟩
  · show Steps p.tables e below (T9.setTop (mkF m 22 #[.val (.ref a1), .val (.double d1), .second, .val (.int (2 : Int32)), .val (.int (2 : Int32))] [])) _
    exact X9.returnOut hx Bd.returns (hb hby d3_22) hr
  · show Qfill2 Z a1 d1 kk h0 n0 _ T9.heap _
    rw [e9]
    exact ⟨rfl, N9, k11, V9⟩
theorem ef_fitN2 (m : MethodId) (a1 : Addr) : entryFrame m #[(.ref a1), (.int (2 : Int32))] 3 = mkF m 0 #[.val (.ref a1), .val (.int (2 : Int32)), .unset] [] := by first | (simp [entryFrame, mkF, argsToLocals, Value.category]; done) | rfl
def QfitN2 (Z : State) (a1 : Addr) (d1 : UInt64) (kk : ClassId) (h0 : Heap) (n0 : Nat) (v : Option Value) (h : Heap) (L : List Loc) : Prop := ∃ (b : Addr) (kb : ClassId), v = some (.ref b) ∧ Fr n0 L ∧ Keep h0 h [] ∧ (h0.size ≤ b) ∧ (Arv Z h b kb .double (2 : Int32) [(.double d1), (.double d1)] (.double (0 : UInt64)))
set_option maxRecDepth 65536 in
set_option maxHeartbeats 40000000 in
theorem rmfitN2 (l : Launch) (Z : State) (a0 : Array Value) (hw : ∀ d ∈ tables_1, d.before a0 Z = true) (ws : List Jvm.Cond) (a1 : Addr) (d1 : UInt64) (kk : ClassId) (h0 : Heap) (n0 : Nat) (Z0 : n0 ≤ h0.size) (P_V_a1 : Arv Z h0 a1 kk .double (1 : Int32) [(.double d1)] (.double (0 : UInt64))) :
    MetFree l (⟨"com/example/manyfront/manyfront/cli/ReferencePoint", "fit", "([DI)[D"⟩ : MethodName) (head1 (Jvm.Cond.code (⟨"com/example/manyfront/manyfront/cli/ReferencePoint", "fit", "([DI)[D"⟩ : MethodName) prog_10_method_2_code 3 (some (.array .double)) :: ws) ({ frames := 1, cells := 1, slots := 2, locals := 16 } : Room)) (fun a U => a = #[(.ref a1), (.int (2 : Int32))] ∧ Z.Warmed39 U.vm ∧ U.heap = h0) (fun _ _ _ _ _ => True) (fun _ U o U' => ∃ v L, o = .returned v ∧ QfitN2 Z a1 d1 kk h0 n0 v U'.heap L ∧ FrameEnd U o U' L ({ frames := 1, cells := 1, slots := 2, locals := 16 } : Room).cells ({ frames := 1, cells := 1, slots := 2, locals := 16 } : Room).slots) := by
  refine MetFree.of_bodySF (plainFor_of_name pn_com_example_manyfront_manyfront_cli_ReferencePoint) hisR ?_
  intro p e s m args below meth c s₁ Bd hml0 hP hK
  obtain ⟨rfl, hZ, hh⟩ := hP
  have hx := Bd.exec
  have hby := Bd.bytes
  have hml : c.maxLocals = 3 := hml0
  have hown : s.vm.findClass "com/example/manyfront/manyfront/cli/ReferencePoint" = some m.cls := findClass_of_methodNamed Bd.named
  have hnm := (name_of_methodNamed Bd.named Bd.method).1
  have X0 : Stand p l e ({ frames := 1, cells := 1, slots := 2, locals := 16 } : Room) s m #[(.ref a1), (.int (2 : Int32))] below meth c s₁ [] 0 0 := Stand.of_body Bd
  have e0 : s₁.heap = h0 := by rw [← hh, Bd.state]; rfl
  have N0 := Fr.nil n0
  have pre0 : ∀ t, Steps p.tables e below (s₁.setTop (mkF m 0 #[.val (.ref a1), .val (.int (2 : Int32)), .unset] [])) t → Steps p.tables e below (s₁.setTop (entryFrame m #[(.ref a1), (.int (2 : Int32))] 3)) t := fun t k => castTop (ef_fitN2 m a1) k
  obtain ⟨cl1, Ar1, Q1, S1, M1, H1, G1⟩ := id P_V_a1
  obtain ⟨T2, h2, k2, X2, e2, E2, A2, st2⟩ := newP X0 hx hZ (hw _ (List.mem_of_getElem? (i := 4) rfl)) e0 (g := (mkF m 7 #[.val (.ref a1), .val (.int (2 : Int32)), .unset] [(.int (2 : Int32))])) rfl (hb hby d2_7) rfl (by decide) (cap := 2) (by decide) (by decide) (by decide) (by decide)
  obtain ⟨b2, g2⟩ : ∃ z, z = h0.size := ⟨_, rfl⟩
  rw [← g2] at A2 st2
  have ne3 : a1 ≠ b2 := Nat.ne_of_lt (Nat.lt_of_lt_of_le P_V_a1.lt (Nat.le_of_eq g2.symm))
  have g_b2 : n0 ≤ b2 := Nat.le_trans Z0 (Nat.le_of_eq g2.symm)
  have sz_b2 : h0.size ≤ b2 := Nat.le_trans (Keep.refl h0 []).1 (Nat.le_of_eq g2.symm)
  have z4 : n0 ≤ h2.size := Nat.le_trans Z0 E2.1
  have k5 : Keep h0 h2 [] := (Keep.refl h0 []).ext E2
  have V2 : Arv Z h2 b2 k2 .double (2 : Int32) [(.double (0 : UInt64)), (.double (0 : UInt64))] (.double (0 : UInt64)) := (Arv.new A2 (by decide)).pad (pad_rep [] (.double (0 : UInt64)) 2)
  have f6 : Arv Z h2 a1 kk .double (1 : Int32) [(.double d1)] (.double (0 : UInt64)) := (P_V_a1.ext E2)
  obtain ⟨cl7, Ar7, Q7, S7, M7, H7, G7⟩ := id f6
  have in8 : ¬ ((0 : Int32) < 0 ∨ cl7.slots.size ≤ ((0 : Int32)).toNatClampNeg) := inb_of S7 ⟨by decide, by decide⟩
  have at9 : cl7.slots[((0 : Int32)).toNatClampNeg]? = some (.double d1) := H7 0 (by rw [S7]; decide)
  obtain ⟨_, _, ⟨T10, L10, kk10, nn10⟩, -, X10, ⟨Lc10, hQ10, l10, y10, z10⟩, st10⟩ := Jvm.LawKit.callS X2 hx (y := (⟨"java/util/Arrays", "fill", "([DD)V"⟩ : MethodName)) hown (mvT hZ (hw _ (List.mem_of_getElem? (i := 10) rfl))) (mvT hZ (hw _ (List.mem_of_getElem? (i := 11) rfl))) (mvT hZ (hw _ (List.mem_of_getElem? (i := 12) rfl))) (mvT hZ (hw _ (List.mem_of_getElem? (i := 13) rfl))) (by decide) (backOf (W := 0) (rmfill2 l Z a0 hw [] b2 d1 k2 h2 n0 z4 V2 g_b2) hZ (hw _ (List.mem_of_getElem? (i := 13) rfl)) (hw _ (List.mem_of_getElem? (i := 12) rfl)) (by decide) (by decide)) (g := (mkF m 14 #[.val (.ref a1), .val (.int (2 : Int32)), .val (.ref b2)] [(.double d1), (.ref b2)])) rfl (by rw [hml]; rfl) (argsL := [(.ref b2), (.double d1)]) (rest := []) (lenOf pd__28_5bDD_29V rfl) rfl (by show 2 * 0 + _ ≤ _; exact Nat.le_of_eq rfl) (hb hby d2_14) (fun _ _ => ⟨rfl, e2, (by decide : 1 + 0 ≤ _), (by decide : 2 + 0 ≤ _)⟩)
  dsimp only [Pt.U, Pt.locs, Pt.cells, Pt.slots] at X10 l10 y10 z10 st10 hQ10
  subst l10 y10 z10
  obtain ⟨rfl, N10q, K10, x10_0⟩ := hQ10
  have N10 := Fr.app N0 N10q
  have z11 : n0 ≤ T10.heap.size := Nat.le_trans z4 K10.1
  have k12 : Keep h0 T10.heap [] := k5.trans K10 (own_wmc (Or.inr sz_b2) own_wm0)
  have pre13 : ∀ t, Steps p.tables e below (T10.setTop (mkF m 18 #[.val (.ref a1), .val (.int (2 : Int32)), .val (.ref b2)] [(.ref b2)])) t → Steps p.tables e below (s₁.setTop (entryFrame m #[(.ref a1), (.int (2 : Int32))] 3)) t := fun t kt => pre0 t (by
      show Steps p.tables e below (s₁.setTop (mkF m 0 #[.val (.ref a1), .val (.int (2 : Int32)), .unset] [])) _
      refine XS.aloadN X0.here hx rfl (hb hby d2_0) rfl rfl ?_
      show Steps p.tables e below (s₁.setTop (mkF m 1 #[.val (.ref a1), .val (.int (2 : Int32)), .unset] [(.ref a1)])) _
      refine X0.arraylength hx (cell := cl1) (by rw [e0]; exact Ar1.1) (State.isArrayOf_alike hZ.alike Ar1.2.1) (g := (mkF m 1 #[.val (.ref a1), .val (.int (2 : Int32)), .unset] [(.ref a1)])) rfl rfl (hb hby d2_1) _ ?_
      rw [len_of S1 M1]
      show Steps p.tables e below (s₁.setTop (mkF m 2 #[.val (.ref a1), .val (.int (2 : Int32)), .unset] [(.int (1 : Int32))])) _
      refine XS.iconst X0.here hx rfl (hb hby d2_2) ?_
      show Steps p.tables e below (s₁.setTop (mkF m 3 #[.val (.ref a1), .val (.int (2 : Int32)), .unset] [(.int (1 : Int32)), (.int (1 : Int32))])) _
      refine XS.icmpNo X0.here hx rfl (hb hby d2_3) rfl (teq ((by decide) : (1 : Int32) = (1 : Int32))).2 ?_
      show Steps p.tables e below (s₁.setTop (mkF m 6 #[.val (.ref a1), .val (.int (2 : Int32)), .unset] [])) _
      refine XS.iloadN X0.here hx rfl (hb hby d2_6) rfl ?_
      show Steps p.tables e below (s₁.setTop (mkF m 7 #[.val (.ref a1), .val (.int (2 : Int32)), .unset] [(.int (2 : Int32))])) _
      refine st2 _ ?_
      show Steps p.tables e below (T2.setTop (mkF m 9 #[.val (.ref a1), .val (.int (2 : Int32)), .unset] [(.ref b2)])) _
      refine XS.astoreN X2.here hx rfl (hb hby d2_9) rfl rfl (l' := #[.val (.ref a1), .val (.int (2 : Int32)), .val (.ref b2)]) rfl ?_
      show Steps p.tables e below (T2.setTop (mkF m 10 #[.val (.ref a1), .val (.int (2 : Int32)), .val (.ref b2)] [])) _
      refine XS.aloadN X2.here hx rfl (hb hby d2_10) rfl rfl ?_
      show Steps p.tables e below (T2.setTop (mkF m 11 #[.val (.ref a1), .val (.int (2 : Int32)), .val (.ref b2)] [(.ref b2)])) _
      refine XS.aloadN X2.here hx rfl (hb hby d2_11) rfl rfl ?_
      show Steps p.tables e below (T2.setTop (mkF m 12 #[.val (.ref a1), .val (.int (2 : Int32)), .val (.ref b2)] [(.ref a1), (.ref b2)])) _
      refine XS.iconst X2.here hx rfl (hb hby d2_12) ?_
      show Steps p.tables e below (T2.setTop (mkF m 13 #[.val (.ref a1), .val (.int (2 : Int32)), .val (.ref b2)] [(.int (0 : Int32)), (.ref a1), (.ref b2)])) _
      refine X2.daload hx (j := (0 : Int32)) (v := (.double d1)) (by rw [e2]; exact Ar7.1) (State.isArrayOf_alike hZ.alike Ar7.2.1) Ar7.2.2 in8 at9 (g := (mkF m 13 #[.val (.ref a1), .val (.int (2 : Int32)), .val (.ref b2)] [(.int (0 : Int32)), (.ref a1), (.ref b2)])) rfl rfl (hb hby d2_13) _ ?_
      show Steps p.tables e below (T2.setTop (mkF m 14 #[.val (.ref a1), .val (.int (2 : Int32)), .val (.ref b2)] [(.double d1), (.ref b2)])) _
      refine st10 _ ?_
      show Steps p.tables e below (T10.setTop (mkF m 17 #[.val (.ref a1), .val (.int (2 : Int32)), .val (.ref b2)] [])) _
      refine XS.aloadN X10.here hx rfl (hb hby d2_17) rfl rfl ?_
      exact kt)
  obtain ⟨fs, hr, hrun, hended, hW, hsame⟩ := X10.leave (v := some (.ref b2)) (fun h => by rw [Bd.returns] at h; cases h)
  refine ⟨_, _, pre13 _ ?_, hrun, hended, _, _, rfl, ?_, ⟨_, rfl⟩, hW, hsame.mono (by decide) (by decide)⟩
  · show Steps p.tables e below (T10.setTop (mkF m 18 #[.val (.ref a1), .val (.int (2 : Int32)), .val (.ref b2)] [(.ref b2)])) _
    exact own_retR X10 hx Bd.returns rfl (hb hby d2_18) hr
  · show QfitN2 Z a1 d1 kk h0 n0 _ T10.heap _
    exact ⟨b2, k2, rfl, N10, k12, sz_b2, x10_0⟩
theorem ef_fill3 (m : MethodId) (a1 : Addr) (d1 : UInt64) : entryFrame m #[(.ref a1), (.double d1)] 5 = mkF m 0 #[.val (.ref a1), .val (.double d1), .second, .unset, .unset] [] := by first | (simp [entryFrame, mkF, argsToLocals, Value.category]; done) | rfl
def Qfill3 (Z : State) (a1 : Addr) (d1 : UInt64) (kk : ClassId) (h0 : Heap) (n0 : Nat) (v : Option Value) (h : Heap) (L : List Loc) : Prop := v = none ∧ Fr n0 L ∧ Keep h0 h [a1] ∧ (Arv Z h a1 kk .double (3 : Int32) [(.double d1), (.double d1), (.double d1)] (.double (0 : UInt64)))
set_option maxRecDepth 65536 in
set_option maxHeartbeats 40000000 in
theorem rmfill3 (l : Launch) (Z : State) (a0 : Array Value) (hw : ∀ d ∈ tables_1, d.before a0 Z = true) (ws : List Jvm.Cond) (a1 : Addr) (d1 : UInt64) (kk : ClassId) (h0 : Heap) (n0 : Nat) (Z0 : n0 ≤ h0.size) (P_V_a1 : Arv Z h0 a1 kk .double (3 : Int32) [(.double (0 : UInt64)), (.double (0 : UInt64)), (.double (0 : UInt64))] (.double (0 : UInt64))) (P_G_a1 : n0 ≤ a1) :
    MetFree l (⟨"java/util/Arrays", "fill", "([DD)V"⟩ : MethodName) (head1 (Jvm.Cond.code (⟨"java/util/Arrays", "fill", "([DD)V"⟩ : MethodName) jdk_65_method_113_code 5 none :: ws) ({ frames := 0, cells := 0, slots := 0, locals := 0 } : Room)) (fun a U => a = #[(.ref a1), (.double d1)] ∧ Z.Warmed39 U.vm ∧ U.heap = h0) (fun _ _ _ _ _ => True) (fun _ U o U' => ∃ v L, o = .returned v ∧ Qfill3 Z a1 d1 kk h0 n0 v U'.heap L ∧ FrameEnd U o U' L ({ frames := 0, cells := 0, slots := 0, locals := 0 } : Room).cells ({ frames := 0, cells := 0, slots := 0, locals := 0 } : Room).slots) := by
  refine MetFree.of_bodySF (plainFor_of_name pn_java_util_Arrays) hisR ?_
  intro p e s m args below meth c s₁ Bd hml0 hP hK
  obtain ⟨rfl, hZ, hh⟩ := hP
  have hx := Bd.exec
  have hby := Bd.bytes
  have hml : c.maxLocals = 5 := hml0
  have hown : s.vm.findClass "java/util/Arrays" = some m.cls := findClass_of_methodNamed Bd.named
  have hnm := (name_of_methodNamed Bd.named Bd.method).1
  have X0 : Stand p l e ({ frames := 0, cells := 0, slots := 0, locals := 0 } : Room) s m #[(.ref a1), (.double d1)] below meth c s₁ [] 0 0 := Stand.of_body Bd
  have e0 : s₁.heap = h0 := by rw [← hh, Bd.state]; rfl
  have N0 := Fr.nil n0
  have pre0 : ∀ t, Steps p.tables e below (s₁.setTop (mkF m 0 #[.val (.ref a1), .val (.double d1), .second, .unset, .unset] [])) t → Steps p.tables e below (s₁.setTop (entryFrame m #[(.ref a1), (.double d1)] 5)) t := fun t k => castTop (ef_fill3 m a1 d1) k
  obtain ⟨cl1, Ar1, Q1, S1, M1, H1, G1⟩ := id P_V_a1
  obtain ⟨cl2, Ar2, Q2, S2, M2, H2, G2⟩ := id P_V_a1
  have in3 : ¬ ((0 : Int32) < 0 ∨ cl2.slots.size ≤ ((0 : Int32)).toNatClampNeg) := inb_of S2 ⟨by decide, by decide⟩
  obtain ⟨T4, h4, X4, e4, W4, st4⟩ := stD X0 hx hZ e0 Ar2 (j := (0 : Int32)) in3 (g := (mkF m 15 #[.val (.ref a1), .val (.double d1), .second, .val (.int (0 : Int32)), .val (.int (3 : Int32))] [(.double d1), (.int (0 : Int32)), (.ref a1)])) rfl rfl (hb hby d3_15)
  have z5 : n0 ≤ h4.size := Nat.le_trans Z0 (Keep.of_wr W4).1
  have k6 : Keep h0 h4 [a1] := (Keep.refl h0 [a1]).wr W4 (Or.inl (List.mem_of_getElem? (i := 0) rfl))
  have V4 : Arv Z h4 a1 kk .double (3 : Int32) [(.double d1), (.double (0 : UInt64)), (.double (0 : UInt64))] (.double (0 : UInt64)) := Arv.set Ar2 Q2 S2 M2 H2 G2 rfl W4 0 rfl (Nat.le_of_ble_eq_true rfl)
  have N4 : Fr n0 _ := Fr.snoc X4 N0 P_G_a1
  obtain ⟨cl7, Ar7, Q7, S7, M7, H7, G7⟩ := id V4
  have in8 : ¬ ((1 : Int32) < 0 ∨ cl7.slots.size ≤ ((1 : Int32)).toNatClampNeg) := inb_of S7 ⟨by decide, by decide⟩
  obtain ⟨T9, h9, X9, e9, W9, st9⟩ := stD X4 hx hZ e4 Ar7 (j := (1 : Int32)) in8 (g := (mkF m 15 #[.val (.ref a1), .val (.double d1), .second, .val (.int (1 : Int32)), .val (.int (3 : Int32))] [(.double d1), (.int (1 : Int32)), (.ref a1)])) rfl rfl (hb hby d3_15)
  have z10 : n0 ≤ h9.size := Nat.le_trans z5 (Keep.of_wr W9).1
  have k11 : Keep h0 h9 [a1] := k6.wr W9 (Or.inl (List.mem_of_getElem? (i := 0) rfl))
  have V9 : Arv Z h9 a1 kk .double (3 : Int32) [(.double d1), (.double d1), (.double (0 : UInt64))] (.double (0 : UInt64)) := Arv.set Ar7 Q7 S7 M7 H7 G7 rfl W9 1 rfl (Nat.le_of_ble_eq_true rfl)
  have N9 : Fr n0 _ := Fr.snoc X9 N4 P_G_a1
  obtain ⟨cl12, Ar12, Q12, S12, M12, H12, G12⟩ := id V9
  have in13 : ¬ ((2 : Int32) < 0 ∨ cl12.slots.size ≤ ((2 : Int32)).toNatClampNeg) := inb_of S12 ⟨by decide, by decide⟩
  obtain ⟨T14, h14, X14, e14, W14, st14⟩ := stD X9 hx hZ e9 Ar12 (j := (2 : Int32)) in13 (g := (mkF m 15 #[.val (.ref a1), .val (.double d1), .second, .val (.int (2 : Int32)), .val (.int (3 : Int32))] [(.double d1), (.int (2 : Int32)), (.ref a1)])) rfl rfl (hb hby d3_15)
  have z15 : n0 ≤ h14.size := Nat.le_trans z10 (Keep.of_wr W14).1
  have k16 : Keep h0 h14 [a1] := k11.wr W14 (Or.inl (List.mem_of_getElem? (i := 0) rfl))
  have V14 : Arv Z h14 a1 kk .double (3 : Int32) [(.double d1), (.double d1), (.double d1)] (.double (0 : UInt64)) := Arv.set Ar12 Q12 S12 M12 H12 G12 rfl W14 2 rfl (Nat.le_of_ble_eq_true rfl)
  have N14 : Fr n0 _ := Fr.snoc X14 N9 P_G_a1
  have pre17 : ∀ t, Steps p.tables e below (T14.setTop (mkF m 22 #[.val (.ref a1), .val (.double d1), .second, .val (.int (3 : Int32)), .val (.int (3 : Int32))] [])) t → Steps p.tables e below (s₁.setTop (entryFrame m #[(.ref a1), (.double d1)] 5)) t := fun t kt => pre0 t (by
      show Steps p.tables e below (s₁.setTop (mkF m 0 #[.val (.ref a1), .val (.double d1), .second, .unset, .unset] [])) _
      refine XS.iconst X0.here hx rfl (hb hby d3_0) ?_
      show Steps p.tables e below (s₁.setTop (mkF m 1 #[.val (.ref a1), .val (.double d1), .second, .unset, .unset] [(.int (0 : Int32))])) _
      refine XS.istoreN X0.here hx rfl (hb hby d3_1) rfl (l' := #[.val (.ref a1), .val (.double d1), .second, .val (.int (0 : Int32)), .unset]) rfl ?_
      show Steps p.tables e below (s₁.setTop (mkF m 2 #[.val (.ref a1), .val (.double d1), .second, .val (.int (0 : Int32)), .unset] [])) _
      refine XS.aloadN X0.here hx rfl (hb hby d3_2) rfl rfl ?_
      show Steps p.tables e below (s₁.setTop (mkF m 3 #[.val (.ref a1), .val (.double d1), .second, .val (.int (0 : Int32)), .unset] [(.ref a1)])) _
      refine X0.arraylength hx (cell := cl1) (by rw [e0]; exact Ar1.1) (State.isArrayOf_alike hZ.alike Ar1.2.1) (g := (mkF m 3 #[.val (.ref a1), .val (.double d1), .second, .val (.int (0 : Int32)), .unset] [(.ref a1)])) rfl rfl (hb hby d3_3) _ ?_
      rw [len_of S1 M1]
      show Steps p.tables e below (s₁.setTop (mkF m 4 #[.val (.ref a1), .val (.double d1), .second, .val (.int (0 : Int32)), .unset] [(.int (3 : Int32))])) _
      refine XS.istore X0.here hx rfl (hb hby d3_4) rfl (l' := #[.val (.ref a1), .val (.double d1), .second, .val (.int (0 : Int32)), .val (.int (3 : Int32))]) rfl ?_
      show Steps p.tables e below (s₁.setTop (mkF m 6 #[.val (.ref a1), .val (.double d1), .second, .val (.int (0 : Int32)), .val (.int (3 : Int32))] [])) _
      refine XS.iloadN X0.here hx rfl (hb hby d3_6) rfl ?_
      show Steps p.tables e below (s₁.setTop (mkF m 7 #[.val (.ref a1), .val (.double d1), .second, .val (.int (0 : Int32)), .val (.int (3 : Int32))] [(.int (0 : Int32))])) _
      refine XS.iload X0.here hx rfl (hb hby d3_7) rfl ?_
      show Steps p.tables e below (s₁.setTop (mkF m 9 #[.val (.ref a1), .val (.double d1), .second, .val (.int (0 : Int32)), .val (.int (3 : Int32))] [(.int (3 : Int32)), (.int (0 : Int32))])) _
      refine XS.icmpNo X0.here hx rfl (hb hby d3_9) rfl (tlt ((by decide) : (0 : Int32) < (3 : Int32))).2.1 ?_
      show Steps p.tables e below (s₁.setTop (mkF m 12 #[.val (.ref a1), .val (.double d1), .second, .val (.int (0 : Int32)), .val (.int (3 : Int32))] [])) _
      refine XS.aloadN X0.here hx rfl (hb hby d3_12) rfl rfl ?_
      show Steps p.tables e below (s₁.setTop (mkF m 13 #[.val (.ref a1), .val (.double d1), .second, .val (.int (0 : Int32)), .val (.int (3 : Int32))] [(.ref a1)])) _
      refine XS.iloadN X0.here hx rfl (hb hby d3_13) rfl ?_
      show Steps p.tables e below (s₁.setTop (mkF m 14 #[.val (.ref a1), .val (.double d1), .second, .val (.int (0 : Int32)), .val (.int (3 : Int32))] [(.int (0 : Int32)), (.ref a1)])) _
      refine XS.dloadN X0.here hx rfl (hb hby d3_14) rfl ?_
      show Steps p.tables e below (s₁.setTop (mkF m 15 #[.val (.ref a1), .val (.double d1), .second, .val (.int (0 : Int32)), .val (.int (3 : Int32))] [(.double d1), (.int (0 : Int32)), (.ref a1)])) _
      refine st4 _ ?_
      show Steps p.tables e below (T4.setTop (mkF m 16 #[.val (.ref a1), .val (.double d1), .second, .val (.int (0 : Int32)), .val (.int (3 : Int32))] [])) _
      refine XS.iinc X4.here hx rfl (hb hby d3_16) rfl (l' := #[.val (.ref a1), .val (.double d1), .second, .val (.int (1 : Int32)), .val (.int (3 : Int32))]) rfl ?_
      show Steps p.tables e below (T4.setTop (mkF m 19 #[.val (.ref a1), .val (.double d1), .second, .val (.int (1 : Int32)), .val (.int (3 : Int32))] [])) _
      refine XS.goto X4.here hx rfl (pc0 := 19) (pc' := 6) rfl (hb hby d3_19) (by decide) (by decide) ?_
      show Steps p.tables e below (T4.setTop (mkF m 6 #[.val (.ref a1), .val (.double d1), .second, .val (.int (1 : Int32)), .val (.int (3 : Int32))] [])) _
      refine XS.iloadN X4.here hx rfl (hb hby d3_6) rfl ?_
      show Steps p.tables e below (T4.setTop (mkF m 7 #[.val (.ref a1), .val (.double d1), .second, .val (.int (1 : Int32)), .val (.int (3 : Int32))] [(.int (1 : Int32))])) _
      refine XS.iload X4.here hx rfl (hb hby d3_7) rfl ?_
      show Steps p.tables e below (T4.setTop (mkF m 9 #[.val (.ref a1), .val (.double d1), .second, .val (.int (1 : Int32)), .val (.int (3 : Int32))] [(.int (3 : Int32)), (.int (1 : Int32))])) _
      refine XS.icmpNo X4.here hx rfl (hb hby d3_9) rfl (tlt ((by decide) : (1 : Int32) < (3 : Int32))).2.1 ?_
      show Steps p.tables e below (T4.setTop (mkF m 12 #[.val (.ref a1), .val (.double d1), .second, .val (.int (1 : Int32)), .val (.int (3 : Int32))] [])) _
      refine XS.aloadN X4.here hx rfl (hb hby d3_12) rfl rfl ?_
      show Steps p.tables e below (T4.setTop (mkF m 13 #[.val (.ref a1), .val (.double d1), .second, .val (.int (1 : Int32)), .val (.int (3 : Int32))] [(.ref a1)])) _
      refine XS.iloadN X4.here hx rfl (hb hby d3_13) rfl ?_
      show Steps p.tables e below (T4.setTop (mkF m 14 #[.val (.ref a1), .val (.double d1), .second, .val (.int (1 : Int32)), .val (.int (3 : Int32))] [(.int (1 : Int32)), (.ref a1)])) _
      refine XS.dloadN X4.here hx rfl (hb hby d3_14) rfl ?_
      show Steps p.tables e below (T4.setTop (mkF m 15 #[.val (.ref a1), .val (.double d1), .second, .val (.int (1 : Int32)), .val (.int (3 : Int32))] [(.double d1), (.int (1 : Int32)), (.ref a1)])) _
      refine st9 _ ?_
      show Steps p.tables e below (T9.setTop (mkF m 16 #[.val (.ref a1), .val (.double d1), .second, .val (.int (1 : Int32)), .val (.int (3 : Int32))] [])) _
      refine XS.iinc X9.here hx rfl (hb hby d3_16) rfl (l' := #[.val (.ref a1), .val (.double d1), .second, .val (.int (2 : Int32)), .val (.int (3 : Int32))]) rfl ?_
      show Steps p.tables e below (T9.setTop (mkF m 19 #[.val (.ref a1), .val (.double d1), .second, .val (.int (2 : Int32)), .val (.int (3 : Int32))] [])) _
      refine XS.goto X9.here hx rfl (pc0 := 19) (pc' := 6) rfl (hb hby d3_19) (by decide) (by decide) ?_
      show Steps p.tables e below (T9.setTop (mkF m 6 #[.val (.ref a1), .val (.double d1), .second, .val (.int (2 : Int32)), .val (.int (3 : Int32))] [])) _
      refine XS.iloadN X9.here hx rfl (hb hby d3_6) rfl ?_
      show Steps p.tables e below (T9.setTop (mkF m 7 #[.val (.ref a1), .val (.double d1), .second, .val (.int (2 : Int32)), .val (.int (3 : Int32))] [(.int (2 : Int32))])) _
      refine XS.iload X9.here hx rfl (hb hby d3_7) rfl ?_
      show Steps p.tables e below (T9.setTop (mkF m 9 #[.val (.ref a1), .val (.double d1), .second, .val (.int (2 : Int32)), .val (.int (3 : Int32))] [(.int (3 : Int32)), (.int (2 : Int32))])) _
      refine XS.icmpNo X9.here hx rfl (hb hby d3_9) rfl (tlt ((by decide) : (2 : Int32) < (3 : Int32))).2.1 ?_
      show Steps p.tables e below (T9.setTop (mkF m 12 #[.val (.ref a1), .val (.double d1), .second, .val (.int (2 : Int32)), .val (.int (3 : Int32))] [])) _
      refine XS.aloadN X9.here hx rfl (hb hby d3_12) rfl rfl ?_
      show Steps p.tables e below (T9.setTop (mkF m 13 #[.val (.ref a1), .val (.double d1), .second, .val (.int (2 : Int32)), .val (.int (3 : Int32))] [(.ref a1)])) _
      refine XS.iloadN X9.here hx rfl (hb hby d3_13) rfl ?_
      show Steps p.tables e below (T9.setTop (mkF m 14 #[.val (.ref a1), .val (.double d1), .second, .val (.int (2 : Int32)), .val (.int (3 : Int32))] [(.int (2 : Int32)), (.ref a1)])) _
      refine XS.dloadN X9.here hx rfl (hb hby d3_14) rfl ?_
      show Steps p.tables e below (T9.setTop (mkF m 15 #[.val (.ref a1), .val (.double d1), .second, .val (.int (2 : Int32)), .val (.int (3 : Int32))] [(.double d1), (.int (2 : Int32)), (.ref a1)])) _
      refine st14 _ ?_
      show Steps p.tables e below (T14.setTop (mkF m 16 #[.val (.ref a1), .val (.double d1), .second, .val (.int (2 : Int32)), .val (.int (3 : Int32))] [])) _
      refine XS.iinc X14.here hx rfl (hb hby d3_16) rfl (l' := #[.val (.ref a1), .val (.double d1), .second, .val (.int (3 : Int32)), .val (.int (3 : Int32))]) rfl ?_
      show Steps p.tables e below (T14.setTop (mkF m 19 #[.val (.ref a1), .val (.double d1), .second, .val (.int (3 : Int32)), .val (.int (3 : Int32))] [])) _
      refine XS.goto X14.here hx rfl (pc0 := 19) (pc' := 6) rfl (hb hby d3_19) (by decide) (by decide) ?_
      show Steps p.tables e below (T14.setTop (mkF m 6 #[.val (.ref a1), .val (.double d1), .second, .val (.int (3 : Int32)), .val (.int (3 : Int32))] [])) _
      refine XS.iloadN X14.here hx rfl (hb hby d3_6) rfl ?_
      show Steps p.tables e below (T14.setTop (mkF m 7 #[.val (.ref a1), .val (.double d1), .second, .val (.int (3 : Int32)), .val (.int (3 : Int32))] [(.int (3 : Int32))])) _
      refine XS.iload X14.here hx rfl (hb hby d3_7) rfl ?_
      show Steps p.tables e below (T14.setTop (mkF m 9 #[.val (.ref a1), .val (.double d1), .second, .val (.int (3 : Int32)), .val (.int (3 : Int32))] [(.int (3 : Int32)), (.int (3 : Int32))])) _
      refine XS.icmpYes X14.here hx rfl (pc0 := 9) (pc' := 22) rfl (hb hby d3_9) rfl (flt ((by decide) : ¬ ((3 : Int32) < (3 : Int32)))).2.1 (by decide) (by decide) ?_
      exact kt)
  obtain ⟨fs, hr, hrun, hended, hW, hsame⟩ := X14.leave (v := none) (fun _ => rfl)
  refine ⟨_, _, pre17 _ ?_, hrun, hended, _, _, rfl, ?_, ⟨_, rfl⟩, hW, hsame.mono (by decide) (by decide)⟩
  · show Steps p.tables e below (T14.setTop (mkF m 22 #[.val (.ref a1), .val (.double d1), .second, .val (.int (3 : Int32)), .val (.int (3 : Int32))] [])) _
    exact X14.returnOut hx Bd.returns (hb hby d3_22) hr
  · show Qfill3 Z a1 d1 kk h0 n0 _ T14.heap _
    rw [e14]
    exact ⟨rfl, N14, k16, V14⟩
theorem ef_fitN3 (m : MethodId) (a1 : Addr) : entryFrame m #[(.ref a1), (.int (3 : Int32))] 3 = mkF m 0 #[.val (.ref a1), .val (.int (3 : Int32)), .unset] [] := by first | (simp [entryFrame, mkF, argsToLocals, Value.category]; done) | rfl
def QfitN3 (Z : State) (a1 : Addr) (d1 : UInt64) (kk : ClassId) (h0 : Heap) (n0 : Nat) (v : Option Value) (h : Heap) (L : List Loc) : Prop := ∃ (b : Addr) (kb : ClassId), v = some (.ref b) ∧ Fr n0 L ∧ Keep h0 h [] ∧ (h0.size ≤ b) ∧ (Arv Z h b kb .double (3 : Int32) [(.double d1), (.double d1), (.double d1)] (.double (0 : UInt64)))
set_option maxRecDepth 65536 in
set_option maxHeartbeats 40000000 in
theorem rmfitN3 (l : Launch) (Z : State) (a0 : Array Value) (hw : ∀ d ∈ tables_1, d.before a0 Z = true) (ws : List Jvm.Cond) (a1 : Addr) (d1 : UInt64) (kk : ClassId) (h0 : Heap) (n0 : Nat) (Z0 : n0 ≤ h0.size) (P_V_a1 : Arv Z h0 a1 kk .double (1 : Int32) [(.double d1)] (.double (0 : UInt64))) :
    MetFree l (⟨"com/example/manyfront/manyfront/cli/ReferencePoint", "fit", "([DI)[D"⟩ : MethodName) (head1 (Jvm.Cond.code (⟨"com/example/manyfront/manyfront/cli/ReferencePoint", "fit", "([DI)[D"⟩ : MethodName) prog_10_method_2_code 3 (some (.array .double)) :: ws) ({ frames := 1, cells := 1, slots := 3, locals := 16 } : Room)) (fun a U => a = #[(.ref a1), (.int (3 : Int32))] ∧ Z.Warmed39 U.vm ∧ U.heap = h0) (fun _ _ _ _ _ => True) (fun _ U o U' => ∃ v L, o = .returned v ∧ QfitN3 Z a1 d1 kk h0 n0 v U'.heap L ∧ FrameEnd U o U' L ({ frames := 1, cells := 1, slots := 3, locals := 16 } : Room).cells ({ frames := 1, cells := 1, slots := 3, locals := 16 } : Room).slots) := by
  refine MetFree.of_bodySF (plainFor_of_name pn_com_example_manyfront_manyfront_cli_ReferencePoint) hisR ?_
  intro p e s m args below meth c s₁ Bd hml0 hP hK
  obtain ⟨rfl, hZ, hh⟩ := hP
  have hx := Bd.exec
  have hby := Bd.bytes
  have hml : c.maxLocals = 3 := hml0
  have hown : s.vm.findClass "com/example/manyfront/manyfront/cli/ReferencePoint" = some m.cls := findClass_of_methodNamed Bd.named
  have hnm := (name_of_methodNamed Bd.named Bd.method).1
  have X0 : Stand p l e ({ frames := 1, cells := 1, slots := 3, locals := 16 } : Room) s m #[(.ref a1), (.int (3 : Int32))] below meth c s₁ [] 0 0 := Stand.of_body Bd
  have e0 : s₁.heap = h0 := by rw [← hh, Bd.state]; rfl
  have N0 := Fr.nil n0
  have pre0 : ∀ t, Steps p.tables e below (s₁.setTop (mkF m 0 #[.val (.ref a1), .val (.int (3 : Int32)), .unset] [])) t → Steps p.tables e below (s₁.setTop (entryFrame m #[(.ref a1), (.int (3 : Int32))] 3)) t := fun t k => castTop (ef_fitN3 m a1) k
  obtain ⟨cl1, Ar1, Q1, S1, M1, H1, G1⟩ := id P_V_a1
  obtain ⟨T2, h2, k2, X2, e2, E2, A2, st2⟩ := newP X0 hx hZ (hw _ (List.mem_of_getElem? (i := 4) rfl)) e0 (g := (mkF m 7 #[.val (.ref a1), .val (.int (3 : Int32)), .unset] [(.int (3 : Int32))])) rfl (hb hby d2_7) rfl (by decide) (cap := 3) (by decide) (by decide) (by decide) (by decide)
  obtain ⟨b2, g2⟩ : ∃ z, z = h0.size := ⟨_, rfl⟩
  rw [← g2] at A2 st2
  have ne3 : a1 ≠ b2 := Nat.ne_of_lt (Nat.lt_of_lt_of_le P_V_a1.lt (Nat.le_of_eq g2.symm))
  have g_b2 : n0 ≤ b2 := Nat.le_trans Z0 (Nat.le_of_eq g2.symm)
  have sz_b2 : h0.size ≤ b2 := Nat.le_trans (Keep.refl h0 []).1 (Nat.le_of_eq g2.symm)
  have z4 : n0 ≤ h2.size := Nat.le_trans Z0 E2.1
  have k5 : Keep h0 h2 [] := (Keep.refl h0 []).ext E2
  have V2 : Arv Z h2 b2 k2 .double (3 : Int32) [(.double (0 : UInt64)), (.double (0 : UInt64)), (.double (0 : UInt64))] (.double (0 : UInt64)) := (Arv.new A2 (by decide)).pad (pad_rep [] (.double (0 : UInt64)) 3)
  have f6 : Arv Z h2 a1 kk .double (1 : Int32) [(.double d1)] (.double (0 : UInt64)) := (P_V_a1.ext E2)
  obtain ⟨cl7, Ar7, Q7, S7, M7, H7, G7⟩ := id f6
  have in8 : ¬ ((0 : Int32) < 0 ∨ cl7.slots.size ≤ ((0 : Int32)).toNatClampNeg) := inb_of S7 ⟨by decide, by decide⟩
  have at9 : cl7.slots[((0 : Int32)).toNatClampNeg]? = some (.double d1) := H7 0 (by rw [S7]; decide)
  obtain ⟨_, _, ⟨T10, L10, kk10, nn10⟩, -, X10, ⟨Lc10, hQ10, l10, y10, z10⟩, st10⟩ := Jvm.LawKit.callS X2 hx (y := (⟨"java/util/Arrays", "fill", "([DD)V"⟩ : MethodName)) hown (mvT hZ (hw _ (List.mem_of_getElem? (i := 10) rfl))) (mvT hZ (hw _ (List.mem_of_getElem? (i := 11) rfl))) (mvT hZ (hw _ (List.mem_of_getElem? (i := 12) rfl))) (mvT hZ (hw _ (List.mem_of_getElem? (i := 13) rfl))) (by decide) (backOf (W := 0) (rmfill3 l Z a0 hw [] b2 d1 k2 h2 n0 z4 V2 g_b2) hZ (hw _ (List.mem_of_getElem? (i := 13) rfl)) (hw _ (List.mem_of_getElem? (i := 12) rfl)) (by decide) (by decide)) (g := (mkF m 14 #[.val (.ref a1), .val (.int (3 : Int32)), .val (.ref b2)] [(.double d1), (.ref b2)])) rfl (by rw [hml]; rfl) (argsL := [(.ref b2), (.double d1)]) (rest := []) (lenOf pd__28_5bDD_29V rfl) rfl (by show 2 * 0 + _ ≤ _; exact Nat.le_of_eq rfl) (hb hby d2_14) (fun _ _ => ⟨rfl, e2, (by decide : 1 + 0 ≤ _), (by decide : 3 + 0 ≤ _)⟩)
  dsimp only [Pt.U, Pt.locs, Pt.cells, Pt.slots] at X10 l10 y10 z10 st10 hQ10
  subst l10 y10 z10
  obtain ⟨rfl, N10q, K10, x10_0⟩ := hQ10
  have N10 := Fr.app N0 N10q
  have z11 : n0 ≤ T10.heap.size := Nat.le_trans z4 K10.1
  have k12 : Keep h0 T10.heap [] := k5.trans K10 (own_wmc (Or.inr sz_b2) own_wm0)
  have pre13 : ∀ t, Steps p.tables e below (T10.setTop (mkF m 18 #[.val (.ref a1), .val (.int (3 : Int32)), .val (.ref b2)] [(.ref b2)])) t → Steps p.tables e below (s₁.setTop (entryFrame m #[(.ref a1), (.int (3 : Int32))] 3)) t := fun t kt => pre0 t (by
      show Steps p.tables e below (s₁.setTop (mkF m 0 #[.val (.ref a1), .val (.int (3 : Int32)), .unset] [])) _
      refine XS.aloadN X0.here hx rfl (hb hby d2_0) rfl rfl ?_
      show Steps p.tables e below (s₁.setTop (mkF m 1 #[.val (.ref a1), .val (.int (3 : Int32)), .unset] [(.ref a1)])) _
      refine X0.arraylength hx (cell := cl1) (by rw [e0]; exact Ar1.1) (State.isArrayOf_alike hZ.alike Ar1.2.1) (g := (mkF m 1 #[.val (.ref a1), .val (.int (3 : Int32)), .unset] [(.ref a1)])) rfl rfl (hb hby d2_1) _ ?_
      rw [len_of S1 M1]
      show Steps p.tables e below (s₁.setTop (mkF m 2 #[.val (.ref a1), .val (.int (3 : Int32)), .unset] [(.int (1 : Int32))])) _
      refine XS.iconst X0.here hx rfl (hb hby d2_2) ?_
      show Steps p.tables e below (s₁.setTop (mkF m 3 #[.val (.ref a1), .val (.int (3 : Int32)), .unset] [(.int (1 : Int32)), (.int (1 : Int32))])) _
      refine XS.icmpNo X0.here hx rfl (hb hby d2_3) rfl (teq ((by decide) : (1 : Int32) = (1 : Int32))).2 ?_
      show Steps p.tables e below (s₁.setTop (mkF m 6 #[.val (.ref a1), .val (.int (3 : Int32)), .unset] [])) _
      refine XS.iloadN X0.here hx rfl (hb hby d2_6) rfl ?_
      show Steps p.tables e below (s₁.setTop (mkF m 7 #[.val (.ref a1), .val (.int (3 : Int32)), .unset] [(.int (3 : Int32))])) _
      refine st2 _ ?_
      show Steps p.tables e below (T2.setTop (mkF m 9 #[.val (.ref a1), .val (.int (3 : Int32)), .unset] [(.ref b2)])) _
      refine XS.astoreN X2.here hx rfl (hb hby d2_9) rfl rfl (l' := #[.val (.ref a1), .val (.int (3 : Int32)), .val (.ref b2)]) rfl ?_
      show Steps p.tables e below (T2.setTop (mkF m 10 #[.val (.ref a1), .val (.int (3 : Int32)), .val (.ref b2)] [])) _
      refine XS.aloadN X2.here hx rfl (hb hby d2_10) rfl rfl ?_
      show Steps p.tables e below (T2.setTop (mkF m 11 #[.val (.ref a1), .val (.int (3 : Int32)), .val (.ref b2)] [(.ref b2)])) _
      refine XS.aloadN X2.here hx rfl (hb hby d2_11) rfl rfl ?_
      show Steps p.tables e below (T2.setTop (mkF m 12 #[.val (.ref a1), .val (.int (3 : Int32)), .val (.ref b2)] [(.ref a1), (.ref b2)])) _
      refine XS.iconst X2.here hx rfl (hb hby d2_12) ?_
      show Steps p.tables e below (T2.setTop (mkF m 13 #[.val (.ref a1), .val (.int (3 : Int32)), .val (.ref b2)] [(.int (0 : Int32)), (.ref a1), (.ref b2)])) _
      refine X2.daload hx (j := (0 : Int32)) (v := (.double d1)) (by rw [e2]; exact Ar7.1) (State.isArrayOf_alike hZ.alike Ar7.2.1) Ar7.2.2 in8 at9 (g := (mkF m 13 #[.val (.ref a1), .val (.int (3 : Int32)), .val (.ref b2)] [(.int (0 : Int32)), (.ref a1), (.ref b2)])) rfl rfl (hb hby d2_13) _ ?_
      show Steps p.tables e below (T2.setTop (mkF m 14 #[.val (.ref a1), .val (.int (3 : Int32)), .val (.ref b2)] [(.double d1), (.ref b2)])) _
      refine st10 _ ?_
      show Steps p.tables e below (T10.setTop (mkF m 17 #[.val (.ref a1), .val (.int (3 : Int32)), .val (.ref b2)] [])) _
      refine XS.aloadN X10.here hx rfl (hb hby d2_17) rfl rfl ?_
      exact kt)
  obtain ⟨fs, hr, hrun, hended, hW, hsame⟩ := X10.leave (v := some (.ref b2)) (fun h => by rw [Bd.returns] at h; cases h)
  refine ⟨_, _, pre13 _ ?_, hrun, hended, _, _, rfl, ?_, ⟨_, rfl⟩, hW, hsame.mono (by decide) (by decide)⟩
  · show Steps p.tables e below (T10.setTop (mkF m 18 #[.val (.ref a1), .val (.int (3 : Int32)), .val (.ref b2)] [(.ref b2)])) _
    exact own_retR X10 hx Bd.returns rfl (hb hby d2_18) hr
  · show QfitN3 Z a1 d1 kk h0 n0 _ T10.heap _
    exact ⟨b2, k2, rfl, N10, k12, sz_b2, x10_0⟩
theorem ef_fill4 (m : MethodId) (a1 : Addr) (d1 : UInt64) : entryFrame m #[(.ref a1), (.double d1)] 5 = mkF m 0 #[.val (.ref a1), .val (.double d1), .second, .unset, .unset] [] := by first | (simp [entryFrame, mkF, argsToLocals, Value.category]; done) | rfl
def Qfill4 (Z : State) (a1 : Addr) (d1 : UInt64) (kk : ClassId) (h0 : Heap) (n0 : Nat) (v : Option Value) (h : Heap) (L : List Loc) : Prop := v = none ∧ Fr n0 L ∧ Keep h0 h [a1] ∧ (Arv Z h a1 kk .double (4 : Int32) [(.double d1), (.double d1), (.double d1), (.double d1)] (.double (0 : UInt64)))
set_option maxRecDepth 65536 in
set_option maxHeartbeats 40000000 in
theorem rmfill4 (l : Launch) (Z : State) (a0 : Array Value) (hw : ∀ d ∈ tables_1, d.before a0 Z = true) (ws : List Jvm.Cond) (a1 : Addr) (d1 : UInt64) (kk : ClassId) (h0 : Heap) (n0 : Nat) (Z0 : n0 ≤ h0.size) (P_V_a1 : Arv Z h0 a1 kk .double (4 : Int32) [(.double (0 : UInt64)), (.double (0 : UInt64)), (.double (0 : UInt64)), (.double (0 : UInt64))] (.double (0 : UInt64))) (P_G_a1 : n0 ≤ a1) :
    MetFree l (⟨"java/util/Arrays", "fill", "([DD)V"⟩ : MethodName) (head1 (Jvm.Cond.code (⟨"java/util/Arrays", "fill", "([DD)V"⟩ : MethodName) jdk_65_method_113_code 5 none :: ws) ({ frames := 0, cells := 0, slots := 0, locals := 0 } : Room)) (fun a U => a = #[(.ref a1), (.double d1)] ∧ Z.Warmed39 U.vm ∧ U.heap = h0) (fun _ _ _ _ _ => True) (fun _ U o U' => ∃ v L, o = .returned v ∧ Qfill4 Z a1 d1 kk h0 n0 v U'.heap L ∧ FrameEnd U o U' L ({ frames := 0, cells := 0, slots := 0, locals := 0 } : Room).cells ({ frames := 0, cells := 0, slots := 0, locals := 0 } : Room).slots) := by
  refine MetFree.of_bodySF (plainFor_of_name pn_java_util_Arrays) hisR ?_
  intro p e s m args below meth c s₁ Bd hml0 hP hK
  obtain ⟨rfl, hZ, hh⟩ := hP
  have hx := Bd.exec
  have hby := Bd.bytes
  have hml : c.maxLocals = 5 := hml0
  have hown : s.vm.findClass "java/util/Arrays" = some m.cls := findClass_of_methodNamed Bd.named
  have hnm := (name_of_methodNamed Bd.named Bd.method).1
  have X0 : Stand p l e ({ frames := 0, cells := 0, slots := 0, locals := 0 } : Room) s m #[(.ref a1), (.double d1)] below meth c s₁ [] 0 0 := Stand.of_body Bd
  have e0 : s₁.heap = h0 := by rw [← hh, Bd.state]; rfl
  have N0 := Fr.nil n0
  have pre0 : ∀ t, Steps p.tables e below (s₁.setTop (mkF m 0 #[.val (.ref a1), .val (.double d1), .second, .unset, .unset] [])) t → Steps p.tables e below (s₁.setTop (entryFrame m #[(.ref a1), (.double d1)] 5)) t := fun t k => castTop (ef_fill4 m a1 d1) k
  obtain ⟨cl1, Ar1, Q1, S1, M1, H1, G1⟩ := id P_V_a1
  obtain ⟨cl2, Ar2, Q2, S2, M2, H2, G2⟩ := id P_V_a1
  have in3 : ¬ ((0 : Int32) < 0 ∨ cl2.slots.size ≤ ((0 : Int32)).toNatClampNeg) := inb_of S2 ⟨by decide, by decide⟩
  obtain ⟨T4, h4, X4, e4, W4, st4⟩ := stD X0 hx hZ e0 Ar2 (j := (0 : Int32)) in3 (g := (mkF m 15 #[.val (.ref a1), .val (.double d1), .second, .val (.int (0 : Int32)), .val (.int (4 : Int32))] [(.double d1), (.int (0 : Int32)), (.ref a1)])) rfl rfl (hb hby d3_15)
  have z5 : n0 ≤ h4.size := Nat.le_trans Z0 (Keep.of_wr W4).1
  have k6 : Keep h0 h4 [a1] := (Keep.refl h0 [a1]).wr W4 (Or.inl (List.mem_of_getElem? (i := 0) rfl))
  have V4 : Arv Z h4 a1 kk .double (4 : Int32) [(.double d1), (.double (0 : UInt64)), (.double (0 : UInt64)), (.double (0 : UInt64))] (.double (0 : UInt64)) := Arv.set Ar2 Q2 S2 M2 H2 G2 rfl W4 0 rfl (Nat.le_of_ble_eq_true rfl)
  have N4 : Fr n0 _ := Fr.snoc X4 N0 P_G_a1
  obtain ⟨cl7, Ar7, Q7, S7, M7, H7, G7⟩ := id V4
  have in8 : ¬ ((1 : Int32) < 0 ∨ cl7.slots.size ≤ ((1 : Int32)).toNatClampNeg) := inb_of S7 ⟨by decide, by decide⟩
  obtain ⟨T9, h9, X9, e9, W9, st9⟩ := stD X4 hx hZ e4 Ar7 (j := (1 : Int32)) in8 (g := (mkF m 15 #[.val (.ref a1), .val (.double d1), .second, .val (.int (1 : Int32)), .val (.int (4 : Int32))] [(.double d1), (.int (1 : Int32)), (.ref a1)])) rfl rfl (hb hby d3_15)
  have z10 : n0 ≤ h9.size := Nat.le_trans z5 (Keep.of_wr W9).1
  have k11 : Keep h0 h9 [a1] := k6.wr W9 (Or.inl (List.mem_of_getElem? (i := 0) rfl))
  have V9 : Arv Z h9 a1 kk .double (4 : Int32) [(.double d1), (.double d1), (.double (0 : UInt64)), (.double (0 : UInt64))] (.double (0 : UInt64)) := Arv.set Ar7 Q7 S7 M7 H7 G7 rfl W9 1 rfl (Nat.le_of_ble_eq_true rfl)
  have N9 : Fr n0 _ := Fr.snoc X9 N4 P_G_a1
  obtain ⟨cl12, Ar12, Q12, S12, M12, H12, G12⟩ := id V9
  have in13 : ¬ ((2 : Int32) < 0 ∨ cl12.slots.size ≤ ((2 : Int32)).toNatClampNeg) := inb_of S12 ⟨by decide, by decide⟩
  obtain ⟨T14, h14, X14, e14, W14, st14⟩ := stD X9 hx hZ e9 Ar12 (j := (2 : Int32)) in13 (g := (mkF m 15 #[.val (.ref a1), .val (.double d1), .second, .val (.int (2 : Int32)), .val (.int (4 : Int32))] [(.double d1), (.int (2 : Int32)), (.ref a1)])) rfl rfl (hb hby d3_15)
  have z15 : n0 ≤ h14.size := Nat.le_trans z10 (Keep.of_wr W14).1
  have k16 : Keep h0 h14 [a1] := k11.wr W14 (Or.inl (List.mem_of_getElem? (i := 0) rfl))
  have V14 : Arv Z h14 a1 kk .double (4 : Int32) [(.double d1), (.double d1), (.double d1), (.double (0 : UInt64))] (.double (0 : UInt64)) := Arv.set Ar12 Q12 S12 M12 H12 G12 rfl W14 2 rfl (Nat.le_of_ble_eq_true rfl)
  have N14 : Fr n0 _ := Fr.snoc X14 N9 P_G_a1
  obtain ⟨cl17, Ar17, Q17, S17, M17, H17, G17⟩ := id V14
  have in18 : ¬ ((3 : Int32) < 0 ∨ cl17.slots.size ≤ ((3 : Int32)).toNatClampNeg) := inb_of S17 ⟨by decide, by decide⟩
  obtain ⟨T19, h19, X19, e19, W19, st19⟩ := stD X14 hx hZ e14 Ar17 (j := (3 : Int32)) in18 (g := (mkF m 15 #[.val (.ref a1), .val (.double d1), .second, .val (.int (3 : Int32)), .val (.int (4 : Int32))] [(.double d1), (.int (3 : Int32)), (.ref a1)])) rfl rfl (hb hby d3_15)
  have z20 : n0 ≤ h19.size := Nat.le_trans z15 (Keep.of_wr W19).1
  have k21 : Keep h0 h19 [a1] := k16.wr W19 (Or.inl (List.mem_of_getElem? (i := 0) rfl))
  have V19 : Arv Z h19 a1 kk .double (4 : Int32) [(.double d1), (.double d1), (.double d1), (.double d1)] (.double (0 : UInt64)) := Arv.set Ar17 Q17 S17 M17 H17 G17 rfl W19 3 rfl (Nat.le_of_ble_eq_true rfl)
  have N19 : Fr n0 _ := Fr.snoc X19 N14 P_G_a1
  have pre22 : ∀ t, Steps p.tables e below (T19.setTop (mkF m 22 #[.val (.ref a1), .val (.double d1), .second, .val (.int (4 : Int32)), .val (.int (4 : Int32))] [])) t → Steps p.tables e below (s₁.setTop (entryFrame m #[(.ref a1), (.double d1)] 5)) t := fun t kt => pre0 t (by
      show Steps p.tables e below (s₁.setTop (mkF m 0 #[.val (.ref a1), .val (.double d1), .second, .unset, .unset] [])) _
      refine XS.iconst X0.here hx rfl (hb hby d3_0) ?_
      show Steps p.tables e below (s₁.setTop (mkF m 1 #[.val (.ref a1), .val (.double d1), .second, .unset, .unset] [(.int (0 : Int32))])) _
      refine XS.istoreN X0.here hx rfl (hb hby d3_1) rfl (l' := #[.val (.ref a1), .val (.double d1), .second, .val (.int (0 : Int32)), .unset]) rfl ?_
      show Steps p.tables e below (s₁.setTop (mkF m 2 #[.val (.ref a1), .val (.double d1), .second, .val (.int (0 : Int32)), .unset] [])) _
      refine XS.aloadN X0.here hx rfl (hb hby d3_2) rfl rfl ?_
      show Steps p.tables e below (s₁.setTop (mkF m 3 #[.val (.ref a1), .val (.double d1), .second, .val (.int (0 : Int32)), .unset] [(.ref a1)])) _
      refine X0.arraylength hx (cell := cl1) (by rw [e0]; exact Ar1.1) (State.isArrayOf_alike hZ.alike Ar1.2.1) (g := (mkF m 3 #[.val (.ref a1), .val (.double d1), .second, .val (.int (0 : Int32)), .unset] [(.ref a1)])) rfl rfl (hb hby d3_3) _ ?_
      rw [len_of S1 M1]
      show Steps p.tables e below (s₁.setTop (mkF m 4 #[.val (.ref a1), .val (.double d1), .second, .val (.int (0 : Int32)), .unset] [(.int (4 : Int32))])) _
      refine XS.istore X0.here hx rfl (hb hby d3_4) rfl (l' := #[.val (.ref a1), .val (.double d1), .second, .val (.int (0 : Int32)), .val (.int (4 : Int32))]) rfl ?_
      show Steps p.tables e below (s₁.setTop (mkF m 6 #[.val (.ref a1), .val (.double d1), .second, .val (.int (0 : Int32)), .val (.int (4 : Int32))] [])) _
      refine XS.iloadN X0.here hx rfl (hb hby d3_6) rfl ?_
      show Steps p.tables e below (s₁.setTop (mkF m 7 #[.val (.ref a1), .val (.double d1), .second, .val (.int (0 : Int32)), .val (.int (4 : Int32))] [(.int (0 : Int32))])) _
      refine XS.iload X0.here hx rfl (hb hby d3_7) rfl ?_
      show Steps p.tables e below (s₁.setTop (mkF m 9 #[.val (.ref a1), .val (.double d1), .second, .val (.int (0 : Int32)), .val (.int (4 : Int32))] [(.int (4 : Int32)), (.int (0 : Int32))])) _
      refine XS.icmpNo X0.here hx rfl (hb hby d3_9) rfl (tlt ((by decide) : (0 : Int32) < (4 : Int32))).2.1 ?_
      show Steps p.tables e below (s₁.setTop (mkF m 12 #[.val (.ref a1), .val (.double d1), .second, .val (.int (0 : Int32)), .val (.int (4 : Int32))] [])) _
      refine XS.aloadN X0.here hx rfl (hb hby d3_12) rfl rfl ?_
      show Steps p.tables e below (s₁.setTop (mkF m 13 #[.val (.ref a1), .val (.double d1), .second, .val (.int (0 : Int32)), .val (.int (4 : Int32))] [(.ref a1)])) _
      refine XS.iloadN X0.here hx rfl (hb hby d3_13) rfl ?_
      show Steps p.tables e below (s₁.setTop (mkF m 14 #[.val (.ref a1), .val (.double d1), .second, .val (.int (0 : Int32)), .val (.int (4 : Int32))] [(.int (0 : Int32)), (.ref a1)])) _
      refine XS.dloadN X0.here hx rfl (hb hby d3_14) rfl ?_
      show Steps p.tables e below (s₁.setTop (mkF m 15 #[.val (.ref a1), .val (.double d1), .second, .val (.int (0 : Int32)), .val (.int (4 : Int32))] [(.double d1), (.int (0 : Int32)), (.ref a1)])) _
      refine st4 _ ?_
      show Steps p.tables e below (T4.setTop (mkF m 16 #[.val (.ref a1), .val (.double d1), .second, .val (.int (0 : Int32)), .val (.int (4 : Int32))] [])) _
      refine XS.iinc X4.here hx rfl (hb hby d3_16) rfl (l' := #[.val (.ref a1), .val (.double d1), .second, .val (.int (1 : Int32)), .val (.int (4 : Int32))]) rfl ?_
      show Steps p.tables e below (T4.setTop (mkF m 19 #[.val (.ref a1), .val (.double d1), .second, .val (.int (1 : Int32)), .val (.int (4 : Int32))] [])) _
      refine XS.goto X4.here hx rfl (pc0 := 19) (pc' := 6) rfl (hb hby d3_19) (by decide) (by decide) ?_
      show Steps p.tables e below (T4.setTop (mkF m 6 #[.val (.ref a1), .val (.double d1), .second, .val (.int (1 : Int32)), .val (.int (4 : Int32))] [])) _
      refine XS.iloadN X4.here hx rfl (hb hby d3_6) rfl ?_
      show Steps p.tables e below (T4.setTop (mkF m 7 #[.val (.ref a1), .val (.double d1), .second, .val (.int (1 : Int32)), .val (.int (4 : Int32))] [(.int (1 : Int32))])) _
      refine XS.iload X4.here hx rfl (hb hby d3_7) rfl ?_
      show Steps p.tables e below (T4.setTop (mkF m 9 #[.val (.ref a1), .val (.double d1), .second, .val (.int (1 : Int32)), .val (.int (4 : Int32))] [(.int (4 : Int32)), (.int (1 : Int32))])) _
      refine XS.icmpNo X4.here hx rfl (hb hby d3_9) rfl (tlt ((by decide) : (1 : Int32) < (4 : Int32))).2.1 ?_
      show Steps p.tables e below (T4.setTop (mkF m 12 #[.val (.ref a1), .val (.double d1), .second, .val (.int (1 : Int32)), .val (.int (4 : Int32))] [])) _
      refine XS.aloadN X4.here hx rfl (hb hby d3_12) rfl rfl ?_
      show Steps p.tables e below (T4.setTop (mkF m 13 #[.val (.ref a1), .val (.double d1), .second, .val (.int (1 : Int32)), .val (.int (4 : Int32))] [(.ref a1)])) _
      refine XS.iloadN X4.here hx rfl (hb hby d3_13) rfl ?_
      show Steps p.tables e below (T4.setTop (mkF m 14 #[.val (.ref a1), .val (.double d1), .second, .val (.int (1 : Int32)), .val (.int (4 : Int32))] [(.int (1 : Int32)), (.ref a1)])) _
      refine XS.dloadN X4.here hx rfl (hb hby d3_14) rfl ?_
      show Steps p.tables e below (T4.setTop (mkF m 15 #[.val (.ref a1), .val (.double d1), .second, .val (.int (1 : Int32)), .val (.int (4 : Int32))] [(.double d1), (.int (1 : Int32)), (.ref a1)])) _
      refine st9 _ ?_
      show Steps p.tables e below (T9.setTop (mkF m 16 #[.val (.ref a1), .val (.double d1), .second, .val (.int (1 : Int32)), .val (.int (4 : Int32))] [])) _
      refine XS.iinc X9.here hx rfl (hb hby d3_16) rfl (l' := #[.val (.ref a1), .val (.double d1), .second, .val (.int (2 : Int32)), .val (.int (4 : Int32))]) rfl ?_
      show Steps p.tables e below (T9.setTop (mkF m 19 #[.val (.ref a1), .val (.double d1), .second, .val (.int (2 : Int32)), .val (.int (4 : Int32))] [])) _
      refine XS.goto X9.here hx rfl (pc0 := 19) (pc' := 6) rfl (hb hby d3_19) (by decide) (by decide) ?_
      show Steps p.tables e below (T9.setTop (mkF m 6 #[.val (.ref a1), .val (.double d1), .second, .val (.int (2 : Int32)), .val (.int (4 : Int32))] [])) _
      refine XS.iloadN X9.here hx rfl (hb hby d3_6) rfl ?_
      show Steps p.tables e below (T9.setTop (mkF m 7 #[.val (.ref a1), .val (.double d1), .second, .val (.int (2 : Int32)), .val (.int (4 : Int32))] [(.int (2 : Int32))])) _
      refine XS.iload X9.here hx rfl (hb hby d3_7) rfl ?_
      show Steps p.tables e below (T9.setTop (mkF m 9 #[.val (.ref a1), .val (.double d1), .second, .val (.int (2 : Int32)), .val (.int (4 : Int32))] [(.int (4 : Int32)), (.int (2 : Int32))])) _
      refine XS.icmpNo X9.here hx rfl (hb hby d3_9) rfl (tlt ((by decide) : (2 : Int32) < (4 : Int32))).2.1 ?_
      show Steps p.tables e below (T9.setTop (mkF m 12 #[.val (.ref a1), .val (.double d1), .second, .val (.int (2 : Int32)), .val (.int (4 : Int32))] [])) _
      refine XS.aloadN X9.here hx rfl (hb hby d3_12) rfl rfl ?_
      show Steps p.tables e below (T9.setTop (mkF m 13 #[.val (.ref a1), .val (.double d1), .second, .val (.int (2 : Int32)), .val (.int (4 : Int32))] [(.ref a1)])) _
      refine XS.iloadN X9.here hx rfl (hb hby d3_13) rfl ?_
      show Steps p.tables e below (T9.setTop (mkF m 14 #[.val (.ref a1), .val (.double d1), .second, .val (.int (2 : Int32)), .val (.int (4 : Int32))] [(.int (2 : Int32)), (.ref a1)])) _
      refine XS.dloadN X9.here hx rfl (hb hby d3_14) rfl ?_
      show Steps p.tables e below (T9.setTop (mkF m 15 #[.val (.ref a1), .val (.double d1), .second, .val (.int (2 : Int32)), .val (.int (4 : Int32))] [(.double d1), (.int (2 : Int32)), (.ref a1)])) _
      refine st14 _ ?_
      show Steps p.tables e below (T14.setTop (mkF m 16 #[.val (.ref a1), .val (.double d1), .second, .val (.int (2 : Int32)), .val (.int (4 : Int32))] [])) _
      refine XS.iinc X14.here hx rfl (hb hby d3_16) rfl (l' := #[.val (.ref a1), .val (.double d1), .second, .val (.int (3 : Int32)), .val (.int (4 : Int32))]) rfl ?_
      show Steps p.tables e below (T14.setTop (mkF m 19 #[.val (.ref a1), .val (.double d1), .second, .val (.int (3 : Int32)), .val (.int (4 : Int32))] [])) _
      refine XS.goto X14.here hx rfl (pc0 := 19) (pc' := 6) rfl (hb hby d3_19) (by decide) (by decide) ?_
      show Steps p.tables e below (T14.setTop (mkF m 6 #[.val (.ref a1), .val (.double d1), .second, .val (.int (3 : Int32)), .val (.int (4 : Int32))] [])) _
      refine XS.iloadN X14.here hx rfl (hb hby d3_6) rfl ?_
      show Steps p.tables e below (T14.setTop (mkF m 7 #[.val (.ref a1), .val (.double d1), .second, .val (.int (3 : Int32)), .val (.int (4 : Int32))] [(.int (3 : Int32))])) _
      refine XS.iload X14.here hx rfl (hb hby d3_7) rfl ?_
      show Steps p.tables e below (T14.setTop (mkF m 9 #[.val (.ref a1), .val (.double d1), .second, .val (.int (3 : Int32)), .val (.int (4 : Int32))] [(.int (4 : Int32)), (.int (3 : Int32))])) _
      refine XS.icmpNo X14.here hx rfl (hb hby d3_9) rfl (tlt ((by decide) : (3 : Int32) < (4 : Int32))).2.1 ?_
      show Steps p.tables e below (T14.setTop (mkF m 12 #[.val (.ref a1), .val (.double d1), .second, .val (.int (3 : Int32)), .val (.int (4 : Int32))] [])) _
      refine XS.aloadN X14.here hx rfl (hb hby d3_12) rfl rfl ?_
      show Steps p.tables e below (T14.setTop (mkF m 13 #[.val (.ref a1), .val (.double d1), .second, .val (.int (3 : Int32)), .val (.int (4 : Int32))] [(.ref a1)])) _
      refine XS.iloadN X14.here hx rfl (hb hby d3_13) rfl ?_
      show Steps p.tables e below (T14.setTop (mkF m 14 #[.val (.ref a1), .val (.double d1), .second, .val (.int (3 : Int32)), .val (.int (4 : Int32))] [(.int (3 : Int32)), (.ref a1)])) _
      refine XS.dloadN X14.here hx rfl (hb hby d3_14) rfl ?_
      show Steps p.tables e below (T14.setTop (mkF m 15 #[.val (.ref a1), .val (.double d1), .second, .val (.int (3 : Int32)), .val (.int (4 : Int32))] [(.double d1), (.int (3 : Int32)), (.ref a1)])) _
      refine st19 _ ?_
      show Steps p.tables e below (T19.setTop (mkF m 16 #[.val (.ref a1), .val (.double d1), .second, .val (.int (3 : Int32)), .val (.int (4 : Int32))] [])) _
      refine XS.iinc X19.here hx rfl (hb hby d3_16) rfl (l' := #[.val (.ref a1), .val (.double d1), .second, .val (.int (4 : Int32)), .val (.int (4 : Int32))]) rfl ?_
      show Steps p.tables e below (T19.setTop (mkF m 19 #[.val (.ref a1), .val (.double d1), .second, .val (.int (4 : Int32)), .val (.int (4 : Int32))] [])) _
      refine XS.goto X19.here hx rfl (pc0 := 19) (pc' := 6) rfl (hb hby d3_19) (by decide) (by decide) ?_
      show Steps p.tables e below (T19.setTop (mkF m 6 #[.val (.ref a1), .val (.double d1), .second, .val (.int (4 : Int32)), .val (.int (4 : Int32))] [])) _
      refine XS.iloadN X19.here hx rfl (hb hby d3_6) rfl ?_
      show Steps p.tables e below (T19.setTop (mkF m 7 #[.val (.ref a1), .val (.double d1), .second, .val (.int (4 : Int32)), .val (.int (4 : Int32))] [(.int (4 : Int32))])) _
      refine XS.iload X19.here hx rfl (hb hby d3_7) rfl ?_
      show Steps p.tables e below (T19.setTop (mkF m 9 #[.val (.ref a1), .val (.double d1), .second, .val (.int (4 : Int32)), .val (.int (4 : Int32))] [(.int (4 : Int32)), (.int (4 : Int32))])) _
      refine XS.icmpYes X19.here hx rfl (pc0 := 9) (pc' := 22) rfl (hb hby d3_9) rfl (flt ((by decide) : ¬ ((4 : Int32) < (4 : Int32)))).2.1 (by decide) (by decide) ?_
      exact kt)
  obtain ⟨fs, hr, hrun, hended, hW, hsame⟩ := X19.leave (v := none) (fun _ => rfl)
  refine ⟨_, _, pre22 _ ?_, hrun, hended, _, _, rfl, ?_, ⟨_, rfl⟩, hW, hsame.mono (by decide) (by decide)⟩
  · show Steps p.tables e below (T19.setTop (mkF m 22 #[.val (.ref a1), .val (.double d1), .second, .val (.int (4 : Int32)), .val (.int (4 : Int32))] [])) _
    exact X19.returnOut hx Bd.returns (hb hby d3_22) hr
  · show Qfill4 Z a1 d1 kk h0 n0 _ T19.heap _
    rw [e19]
    exact ⟨rfl, N19, k21, V19⟩
theorem ef_fitN4 (m : MethodId) (a1 : Addr) : entryFrame m #[(.ref a1), (.int (4 : Int32))] 3 = mkF m 0 #[.val (.ref a1), .val (.int (4 : Int32)), .unset] [] := by first | (simp [entryFrame, mkF, argsToLocals, Value.category]; done) | rfl
def QfitN4 (Z : State) (a1 : Addr) (d1 : UInt64) (kk : ClassId) (h0 : Heap) (n0 : Nat) (v : Option Value) (h : Heap) (L : List Loc) : Prop := ∃ (b : Addr) (kb : ClassId), v = some (.ref b) ∧ Fr n0 L ∧ Keep h0 h [] ∧ (h0.size ≤ b) ∧ (Arv Z h b kb .double (4 : Int32) [(.double d1), (.double d1), (.double d1), (.double d1)] (.double (0 : UInt64)))
set_option maxRecDepth 65536 in
set_option maxHeartbeats 40000000 in
theorem rmfitN4 (l : Launch) (Z : State) (a0 : Array Value) (hw : ∀ d ∈ tables_1, d.before a0 Z = true) (ws : List Jvm.Cond) (a1 : Addr) (d1 : UInt64) (kk : ClassId) (h0 : Heap) (n0 : Nat) (Z0 : n0 ≤ h0.size) (P_V_a1 : Arv Z h0 a1 kk .double (1 : Int32) [(.double d1)] (.double (0 : UInt64))) :
    MetFree l (⟨"com/example/manyfront/manyfront/cli/ReferencePoint", "fit", "([DI)[D"⟩ : MethodName) (head1 (Jvm.Cond.code (⟨"com/example/manyfront/manyfront/cli/ReferencePoint", "fit", "([DI)[D"⟩ : MethodName) prog_10_method_2_code 3 (some (.array .double)) :: ws) ({ frames := 1, cells := 1, slots := 4, locals := 16 } : Room)) (fun a U => a = #[(.ref a1), (.int (4 : Int32))] ∧ Z.Warmed39 U.vm ∧ U.heap = h0) (fun _ _ _ _ _ => True) (fun _ U o U' => ∃ v L, o = .returned v ∧ QfitN4 Z a1 d1 kk h0 n0 v U'.heap L ∧ FrameEnd U o U' L ({ frames := 1, cells := 1, slots := 4, locals := 16 } : Room).cells ({ frames := 1, cells := 1, slots := 4, locals := 16 } : Room).slots) := by
  refine MetFree.of_bodySF (plainFor_of_name pn_com_example_manyfront_manyfront_cli_ReferencePoint) hisR ?_
  intro p e s m args below meth c s₁ Bd hml0 hP hK
  obtain ⟨rfl, hZ, hh⟩ := hP
  have hx := Bd.exec
  have hby := Bd.bytes
  have hml : c.maxLocals = 3 := hml0
  have hown : s.vm.findClass "com/example/manyfront/manyfront/cli/ReferencePoint" = some m.cls := findClass_of_methodNamed Bd.named
  have hnm := (name_of_methodNamed Bd.named Bd.method).1
  have X0 : Stand p l e ({ frames := 1, cells := 1, slots := 4, locals := 16 } : Room) s m #[(.ref a1), (.int (4 : Int32))] below meth c s₁ [] 0 0 := Stand.of_body Bd
  have e0 : s₁.heap = h0 := by rw [← hh, Bd.state]; rfl
  have N0 := Fr.nil n0
  have pre0 : ∀ t, Steps p.tables e below (s₁.setTop (mkF m 0 #[.val (.ref a1), .val (.int (4 : Int32)), .unset] [])) t → Steps p.tables e below (s₁.setTop (entryFrame m #[(.ref a1), (.int (4 : Int32))] 3)) t := fun t k => castTop (ef_fitN4 m a1) k
  obtain ⟨cl1, Ar1, Q1, S1, M1, H1, G1⟩ := id P_V_a1
  obtain ⟨T2, h2, k2, X2, e2, E2, A2, st2⟩ := newP X0 hx hZ (hw _ (List.mem_of_getElem? (i := 4) rfl)) e0 (g := (mkF m 7 #[.val (.ref a1), .val (.int (4 : Int32)), .unset] [(.int (4 : Int32))])) rfl (hb hby d2_7) rfl (by decide) (cap := 4) (by decide) (by decide) (by decide) (by decide)
  obtain ⟨b2, g2⟩ : ∃ z, z = h0.size := ⟨_, rfl⟩
  rw [← g2] at A2 st2
  have ne3 : a1 ≠ b2 := Nat.ne_of_lt (Nat.lt_of_lt_of_le P_V_a1.lt (Nat.le_of_eq g2.symm))
  have g_b2 : n0 ≤ b2 := Nat.le_trans Z0 (Nat.le_of_eq g2.symm)
  have sz_b2 : h0.size ≤ b2 := Nat.le_trans (Keep.refl h0 []).1 (Nat.le_of_eq g2.symm)
  have z4 : n0 ≤ h2.size := Nat.le_trans Z0 E2.1
  have k5 : Keep h0 h2 [] := (Keep.refl h0 []).ext E2
  have V2 : Arv Z h2 b2 k2 .double (4 : Int32) [(.double (0 : UInt64)), (.double (0 : UInt64)), (.double (0 : UInt64)), (.double (0 : UInt64))] (.double (0 : UInt64)) := (Arv.new A2 (by decide)).pad (pad_rep [] (.double (0 : UInt64)) 4)
  have f6 : Arv Z h2 a1 kk .double (1 : Int32) [(.double d1)] (.double (0 : UInt64)) := (P_V_a1.ext E2)
  obtain ⟨cl7, Ar7, Q7, S7, M7, H7, G7⟩ := id f6
  have in8 : ¬ ((0 : Int32) < 0 ∨ cl7.slots.size ≤ ((0 : Int32)).toNatClampNeg) := inb_of S7 ⟨by decide, by decide⟩
  have at9 : cl7.slots[((0 : Int32)).toNatClampNeg]? = some (.double d1) := H7 0 (by rw [S7]; decide)
  obtain ⟨_, _, ⟨T10, L10, kk10, nn10⟩, -, X10, ⟨Lc10, hQ10, l10, y10, z10⟩, st10⟩ := Jvm.LawKit.callS X2 hx (y := (⟨"java/util/Arrays", "fill", "([DD)V"⟩ : MethodName)) hown (mvT hZ (hw _ (List.mem_of_getElem? (i := 10) rfl))) (mvT hZ (hw _ (List.mem_of_getElem? (i := 11) rfl))) (mvT hZ (hw _ (List.mem_of_getElem? (i := 12) rfl))) (mvT hZ (hw _ (List.mem_of_getElem? (i := 13) rfl))) (by decide) (backOf (W := 0) (rmfill4 l Z a0 hw [] b2 d1 k2 h2 n0 z4 V2 g_b2) hZ (hw _ (List.mem_of_getElem? (i := 13) rfl)) (hw _ (List.mem_of_getElem? (i := 12) rfl)) (by decide) (by decide)) (g := (mkF m 14 #[.val (.ref a1), .val (.int (4 : Int32)), .val (.ref b2)] [(.double d1), (.ref b2)])) rfl (by rw [hml]; rfl) (argsL := [(.ref b2), (.double d1)]) (rest := []) (lenOf pd__28_5bDD_29V rfl) rfl (by show 2 * 0 + _ ≤ _; exact Nat.le_of_eq rfl) (hb hby d2_14) (fun _ _ => ⟨rfl, e2, (by decide : 1 + 0 ≤ _), (by decide : 4 + 0 ≤ _)⟩)
  dsimp only [Pt.U, Pt.locs, Pt.cells, Pt.slots] at X10 l10 y10 z10 st10 hQ10
  subst l10 y10 z10
  obtain ⟨rfl, N10q, K10, x10_0⟩ := hQ10
  have N10 := Fr.app N0 N10q
  have z11 : n0 ≤ T10.heap.size := Nat.le_trans z4 K10.1
  have k12 : Keep h0 T10.heap [] := k5.trans K10 (own_wmc (Or.inr sz_b2) own_wm0)
  have pre13 : ∀ t, Steps p.tables e below (T10.setTop (mkF m 18 #[.val (.ref a1), .val (.int (4 : Int32)), .val (.ref b2)] [(.ref b2)])) t → Steps p.tables e below (s₁.setTop (entryFrame m #[(.ref a1), (.int (4 : Int32))] 3)) t := fun t kt => pre0 t (by
      show Steps p.tables e below (s₁.setTop (mkF m 0 #[.val (.ref a1), .val (.int (4 : Int32)), .unset] [])) _
      refine XS.aloadN X0.here hx rfl (hb hby d2_0) rfl rfl ?_
      show Steps p.tables e below (s₁.setTop (mkF m 1 #[.val (.ref a1), .val (.int (4 : Int32)), .unset] [(.ref a1)])) _
      refine X0.arraylength hx (cell := cl1) (by rw [e0]; exact Ar1.1) (State.isArrayOf_alike hZ.alike Ar1.2.1) (g := (mkF m 1 #[.val (.ref a1), .val (.int (4 : Int32)), .unset] [(.ref a1)])) rfl rfl (hb hby d2_1) _ ?_
      rw [len_of S1 M1]
      show Steps p.tables e below (s₁.setTop (mkF m 2 #[.val (.ref a1), .val (.int (4 : Int32)), .unset] [(.int (1 : Int32))])) _
      refine XS.iconst X0.here hx rfl (hb hby d2_2) ?_
      show Steps p.tables e below (s₁.setTop (mkF m 3 #[.val (.ref a1), .val (.int (4 : Int32)), .unset] [(.int (1 : Int32)), (.int (1 : Int32))])) _
      refine XS.icmpNo X0.here hx rfl (hb hby d2_3) rfl (teq ((by decide) : (1 : Int32) = (1 : Int32))).2 ?_
      show Steps p.tables e below (s₁.setTop (mkF m 6 #[.val (.ref a1), .val (.int (4 : Int32)), .unset] [])) _
      refine XS.iloadN X0.here hx rfl (hb hby d2_6) rfl ?_
      show Steps p.tables e below (s₁.setTop (mkF m 7 #[.val (.ref a1), .val (.int (4 : Int32)), .unset] [(.int (4 : Int32))])) _
      refine st2 _ ?_
      show Steps p.tables e below (T2.setTop (mkF m 9 #[.val (.ref a1), .val (.int (4 : Int32)), .unset] [(.ref b2)])) _
      refine XS.astoreN X2.here hx rfl (hb hby d2_9) rfl rfl (l' := #[.val (.ref a1), .val (.int (4 : Int32)), .val (.ref b2)]) rfl ?_
      show Steps p.tables e below (T2.setTop (mkF m 10 #[.val (.ref a1), .val (.int (4 : Int32)), .val (.ref b2)] [])) _
      refine XS.aloadN X2.here hx rfl (hb hby d2_10) rfl rfl ?_
      show Steps p.tables e below (T2.setTop (mkF m 11 #[.val (.ref a1), .val (.int (4 : Int32)), .val (.ref b2)] [(.ref b2)])) _
      refine XS.aloadN X2.here hx rfl (hb hby d2_11) rfl rfl ?_
      show Steps p.tables e below (T2.setTop (mkF m 12 #[.val (.ref a1), .val (.int (4 : Int32)), .val (.ref b2)] [(.ref a1), (.ref b2)])) _
      refine XS.iconst X2.here hx rfl (hb hby d2_12) ?_
      show Steps p.tables e below (T2.setTop (mkF m 13 #[.val (.ref a1), .val (.int (4 : Int32)), .val (.ref b2)] [(.int (0 : Int32)), (.ref a1), (.ref b2)])) _
      refine X2.daload hx (j := (0 : Int32)) (v := (.double d1)) (by rw [e2]; exact Ar7.1) (State.isArrayOf_alike hZ.alike Ar7.2.1) Ar7.2.2 in8 at9 (g := (mkF m 13 #[.val (.ref a1), .val (.int (4 : Int32)), .val (.ref b2)] [(.int (0 : Int32)), (.ref a1), (.ref b2)])) rfl rfl (hb hby d2_13) _ ?_
      show Steps p.tables e below (T2.setTop (mkF m 14 #[.val (.ref a1), .val (.int (4 : Int32)), .val (.ref b2)] [(.double d1), (.ref b2)])) _
      refine st10 _ ?_
      show Steps p.tables e below (T10.setTop (mkF m 17 #[.val (.ref a1), .val (.int (4 : Int32)), .val (.ref b2)] [])) _
      refine XS.aloadN X10.here hx rfl (hb hby d2_17) rfl rfl ?_
      exact kt)
  obtain ⟨fs, hr, hrun, hended, hW, hsame⟩ := X10.leave (v := some (.ref b2)) (fun h => by rw [Bd.returns] at h; cases h)
  refine ⟨_, _, pre13 _ ?_, hrun, hended, _, _, rfl, ?_, ⟨_, rfl⟩, hW, hsame.mono (by decide) (by decide)⟩
  · show Steps p.tables e below (T10.setTop (mkF m 18 #[.val (.ref a1), .val (.int (4 : Int32)), .val (.ref b2)] [(.ref b2)])) _
    exact own_retR X10 hx Bd.returns rfl (hb hby d2_18) hr
  · show QfitN4 Z a1 d1 kk h0 n0 _ T10.heap _
    exact ⟨b2, k2, rfl, N10, k12, sz_b2, x10_0⟩
theorem ef_fitS0 (m : MethodId) (a1 : Addr) : entryFrame m #[(.ref a1), (.int (0 : Int32))] 3 = mkF m 0 #[.val (.ref a1), .val (.int (0 : Int32)), .unset] [] := by first | (simp [entryFrame, mkF, argsToLocals, Value.category]; done) | rfl
theorem d2_19 : decode prog_10_method_2_code 19 = .ok (.aload_n 0, 1) := by decide +kernel
theorem d2_20 : decode prog_10_method_2_code 20 = .ok (.arraylength, 1) := by decide +kernel
theorem d2_21 : decode prog_10_method_2_code 21 = .ok (.iload_n 1, 1) := by decide +kernel
theorem d2_22 : decode prog_10_method_2_code 22 = .ok (.if_icmp .eq 38, 3) := by decide +kernel
theorem d2_60 : decode prog_10_method_2_code 60 = .ok (.aload_n 0, 1) := by decide +kernel
theorem d2_61 : decode prog_10_method_2_code 61 = .ok (.areturn, 1) := by decide +kernel
def QfitS0 (Z : State) (a1 : Addr) (kk : ClassId) (h0 : Heap) (n0 : Nat) (v : Option Value) (h : Heap) (L : List Loc) : Prop := v = some (.ref a1) ∧ Fr n0 L ∧ h = h0
set_option maxRecDepth 65536 in
set_option maxHeartbeats 40000000 in
theorem rmfitS0 (l : Launch) (Z : State) (a0 : Array Value) (hw : ∀ d ∈ tables_1, d.before a0 Z = true) (ws : List Jvm.Cond) (a1 : Addr) (kk : ClassId) (h0 : Heap) (n0 : Nat) (Z0 : n0 ≤ h0.size) (P_V_a1 : Arv Z h0 a1 kk .double (0 : Int32) [] (.double (0 : UInt64))) :
    MetFree l (⟨"com/example/manyfront/manyfront/cli/ReferencePoint", "fit", "([DI)[D"⟩ : MethodName) (head1 (Jvm.Cond.code (⟨"com/example/manyfront/manyfront/cli/ReferencePoint", "fit", "([DI)[D"⟩ : MethodName) prog_10_method_2_code 3 (some (.array .double)) :: ws) ({ frames := 0, cells := 0, slots := 0, locals := 0 } : Room)) (fun a U => a = #[(.ref a1), (.int (0 : Int32))] ∧ Z.Warmed39 U.vm ∧ U.heap = h0) (fun _ _ _ _ _ => True) (fun _ U o U' => ∃ v L, o = .returned v ∧ QfitS0 Z a1 kk h0 n0 v U'.heap L ∧ FrameEnd U o U' L ({ frames := 0, cells := 0, slots := 0, locals := 0 } : Room).cells ({ frames := 0, cells := 0, slots := 0, locals := 0 } : Room).slots) := by
  refine MetFree.of_bodySF (plainFor_of_name pn_com_example_manyfront_manyfront_cli_ReferencePoint) hisR ?_
  intro p e s m args below meth c s₁ Bd hml0 hP hK
  obtain ⟨rfl, hZ, hh⟩ := hP
  have hx := Bd.exec
  have hby := Bd.bytes
  have hml : c.maxLocals = 3 := hml0
  have hown : s.vm.findClass "com/example/manyfront/manyfront/cli/ReferencePoint" = some m.cls := findClass_of_methodNamed Bd.named
  have hnm := (name_of_methodNamed Bd.named Bd.method).1
  have X0 : Stand p l e ({ frames := 0, cells := 0, slots := 0, locals := 0 } : Room) s m #[(.ref a1), (.int (0 : Int32))] below meth c s₁ [] 0 0 := Stand.of_body Bd
  have e0 : s₁.heap = h0 := by rw [← hh, Bd.state]; rfl
  have N0 := Fr.nil n0
  have pre0 : ∀ t, Steps p.tables e below (s₁.setTop (mkF m 0 #[.val (.ref a1), .val (.int (0 : Int32)), .unset] [])) t → Steps p.tables e below (s₁.setTop (entryFrame m #[(.ref a1), (.int (0 : Int32))] 3)) t := fun t k => castTop (ef_fitS0 m a1) k
  obtain ⟨cl1, Ar1, Q1, S1, M1, H1, G1⟩ := id P_V_a1
  obtain ⟨cl2, Ar2, Q2, S2, M2, H2, G2⟩ := id P_V_a1
  have pre3 : ∀ t, Steps p.tables e below (s₁.setTop (mkF m 61 #[.val (.ref a1), .val (.int (0 : Int32)), .unset] [(.ref a1)])) t → Steps p.tables e below (s₁.setTop (entryFrame m #[(.ref a1), (.int (0 : Int32))] 3)) t := fun t kt => pre0 t (by
      show Steps p.tables e below (s₁.setTop (mkF m 0 #[.val (.ref a1), .val (.int (0 : Int32)), .unset] [])) _
      refine XS.aloadN X0.here hx rfl (hb hby d2_0) rfl rfl ?_
      show Steps p.tables e below (s₁.setTop (mkF m 1 #[.val (.ref a1), .val (.int (0 : Int32)), .unset] [(.ref a1)])) _
      refine X0.arraylength hx (cell := cl1) (by rw [e0]; exact Ar1.1) (State.isArrayOf_alike hZ.alike Ar1.2.1) (g := (mkF m 1 #[.val (.ref a1), .val (.int (0 : Int32)), .unset] [(.ref a1)])) rfl rfl (hb hby d2_1) _ ?_
      rw [len_of S1 M1]
      show Steps p.tables e below (s₁.setTop (mkF m 2 #[.val (.ref a1), .val (.int (0 : Int32)), .unset] [(.int (0 : Int32))])) _
      refine XS.iconst X0.here hx rfl (hb hby d2_2) ?_
      show Steps p.tables e below (s₁.setTop (mkF m 3 #[.val (.ref a1), .val (.int (0 : Int32)), .unset] [(.int (1 : Int32)), (.int (0 : Int32))])) _
      refine XS.icmpYes X0.here hx rfl (pc0 := 3) (pc' := 19) rfl (hb hby d2_3) rfl (feq ((by decide) : ¬ ((0 : Int32) = (1 : Int32)))).2 (by decide) (by decide) ?_
      show Steps p.tables e below (s₁.setTop (mkF m 19 #[.val (.ref a1), .val (.int (0 : Int32)), .unset] [])) _
      refine XS.aloadN X0.here hx rfl (hb hby d2_19) rfl rfl ?_
      show Steps p.tables e below (s₁.setTop (mkF m 20 #[.val (.ref a1), .val (.int (0 : Int32)), .unset] [(.ref a1)])) _
      refine X0.arraylength hx (cell := cl2) (by rw [e0]; exact Ar2.1) (State.isArrayOf_alike hZ.alike Ar2.2.1) (g := (mkF m 20 #[.val (.ref a1), .val (.int (0 : Int32)), .unset] [(.ref a1)])) rfl rfl (hb hby d2_20) _ ?_
      rw [len_of S2 M2]
      show Steps p.tables e below (s₁.setTop (mkF m 21 #[.val (.ref a1), .val (.int (0 : Int32)), .unset] [(.int (0 : Int32))])) _
      refine XS.iloadN X0.here hx rfl (hb hby d2_21) rfl ?_
      show Steps p.tables e below (s₁.setTop (mkF m 22 #[.val (.ref a1), .val (.int (0 : Int32)), .unset] [(.int (0 : Int32)), (.int (0 : Int32))])) _
      refine XS.icmpYes X0.here hx rfl (pc0 := 22) (pc' := 60) rfl (hb hby d2_22) rfl (teq ((by decide) : (0 : Int32) = (0 : Int32))).1 (by decide) (by decide) ?_
      show Steps p.tables e below (s₁.setTop (mkF m 60 #[.val (.ref a1), .val (.int (0 : Int32)), .unset] [])) _
      refine XS.aloadN X0.here hx rfl (hb hby d2_60) rfl rfl ?_
      exact kt)
  obtain ⟨fs, hr, hrun, hended, hW, hsame⟩ := X0.leave (v := some (.ref a1)) (fun h => by rw [Bd.returns] at h; cases h)
  refine ⟨_, _, pre3 _ ?_, hrun, hended, _, _, rfl, ?_, ⟨_, rfl⟩, hW, hsame.mono (by decide) (by decide)⟩
  · show Steps p.tables e below (s₁.setTop (mkF m 61 #[.val (.ref a1), .val (.int (0 : Int32)), .unset] [(.ref a1)])) _
    exact own_retR X0 hx Bd.returns rfl (hb hby d2_61) hr
  · show QfitS0 Z a1 kk h0 n0 _ s₁.heap _
    rw [e0]
    exact ⟨rfl, N0, rfl⟩
theorem ef_make0 (m : MethodId) (d1 : UInt64) (d2 : UInt64) (d3 : UInt64) (d4 : UInt64) : entryFrame m #[(.int (0 : Int32)), (.double d1), (.double d2), (.double d3), (.double d4)] 9 = mkF m 0 #[.val (.int (0 : Int32)), .val (.double d1), .second, .val (.double d2), .second, .val (.double d3), .second, .val (.double d4), .second] [] := by first | (simp [entryFrame, mkF, argsToLocals, Value.category]; done) | rfl
theorem d1_0 : decode method_3_code 0 = .ok (.iload_n 0, 1) := by decide +kernel
theorem d1_1 : decode method_3_code 1 = .ok (.ifCond .ne 7, 3) := by decide +kernel
theorem d1_4 : decode method_3_code 4 = .ok (.iconst 0, 1) := by decide +kernel
theorem d1_5 : decode method_3_code 5 = .ok (.newarray .double, 2) := by decide +kernel
theorem d1_7 : decode method_3_code 7 = .ok (.areturn, 1) := by decide +kernel
theorem pn_com_example_manyfront_manyfront_cli_ReferencePointFitPinLaw : plainName "com/example/manyfront/manyfront/cli/ReferencePointFitPinLaw" = true := by first | (simp [plainName, overriddenIn]; done) | decide +kernel
def Qmake0 (Z : State) (d1 : UInt64) (d2 : UInt64) (d3 : UInt64) (d4 : UInt64) (h0 : Heap) (n0 : Nat) (v : Option Value) (h : Heap) (L : List Loc) : Prop := ∃ (b : Addr) (kb : ClassId), v = some (.ref b) ∧ Fr n0 L ∧ Keep h0 h [] ∧ (h0.size ≤ b) ∧ (Arv Z h b kb .double (0 : Int32) [] (.double (0 : UInt64)))
set_option maxRecDepth 65536 in
set_option maxHeartbeats 40000000 in
theorem rmmake0 (l : Launch) (Z : State) (a0 : Array Value) (hw : ∀ d ∈ tables_1, d.before a0 Z = true) (ws : List Jvm.Cond) (d1 : UInt64) (d2 : UInt64) (d3 : UInt64) (d4 : UInt64) (h0 : Heap) (n0 : Nat) (Z0 : n0 ≤ h0.size) :
    MetFree l (⟨"com/example/manyfront/manyfront/cli/ReferencePointFitPinLaw", "make", "(IDDDD)[D"⟩ : MethodName) (head1 (Jvm.Cond.code (⟨"com/example/manyfront/manyfront/cli/ReferencePointFitPinLaw", "make", "(IDDDD)[D"⟩ : MethodName) method_3_code 9 (some (.array .double)) :: ws) ({ frames := 0, cells := 1, slots := 0, locals := 0 } : Room)) (fun a U => a = #[(.int (0 : Int32)), (.double d1), (.double d2), (.double d3), (.double d4)] ∧ Z.Warmed39 U.vm ∧ U.heap = h0) (fun _ _ _ _ _ => True) (fun _ U o U' => ∃ v L, o = .returned v ∧ Qmake0 Z d1 d2 d3 d4 h0 n0 v U'.heap L ∧ FrameEnd U o U' L ({ frames := 0, cells := 1, slots := 0, locals := 0 } : Room).cells ({ frames := 0, cells := 1, slots := 0, locals := 0 } : Room).slots) := by
  refine MetFree.of_bodySF (plainFor_of_name pn_com_example_manyfront_manyfront_cli_ReferencePointFitPinLaw) hisR ?_
  intro p e s m args below meth c s₁ Bd hml0 hP hK
  obtain ⟨rfl, hZ, hh⟩ := hP
  have hx := Bd.exec
  have hby := Bd.bytes
  have hml : c.maxLocals = 9 := hml0
  have hown : s.vm.findClass "com/example/manyfront/manyfront/cli/ReferencePointFitPinLaw" = some m.cls := findClass_of_methodNamed Bd.named
  have hnm := (name_of_methodNamed Bd.named Bd.method).1
  have X0 : Stand p l e ({ frames := 0, cells := 1, slots := 0, locals := 0 } : Room) s m #[(.int (0 : Int32)), (.double d1), (.double d2), (.double d3), (.double d4)] below meth c s₁ [] 0 0 := Stand.of_body Bd
  have e0 : s₁.heap = h0 := by rw [← hh, Bd.state]; rfl
  have N0 := Fr.nil n0
  have pre0 : ∀ t, Steps p.tables e below (s₁.setTop (mkF m 0 #[.val (.int (0 : Int32)), .val (.double d1), .second, .val (.double d2), .second, .val (.double d3), .second, .val (.double d4), .second] [])) t → Steps p.tables e below (s₁.setTop (entryFrame m #[(.int (0 : Int32)), (.double d1), (.double d2), (.double d3), (.double d4)] 9)) t := fun t k => castTop (ef_make0 m d1 d2 d3 d4) k
  obtain ⟨T1, h1, k1, X1, e1, E1, A1, st1⟩ := newP X0 hx hZ (hw _ (List.mem_of_getElem? (i := 4) rfl)) e0 (g := (mkF m 5 #[.val (.int (0 : Int32)), .val (.double d1), .second, .val (.double d2), .second, .val (.double d3), .second, .val (.double d4), .second] [(.int (0 : Int32))])) rfl (hb hby d1_5) rfl (by decide) (cap := 0) (by decide) (by decide) (by decide) (by decide)
  obtain ⟨b1, g1⟩ : ∃ z, z = h0.size := ⟨_, rfl⟩
  rw [← g1] at A1 st1
  have g_b1 : n0 ≤ b1 := Nat.le_trans Z0 (Nat.le_of_eq g1.symm)
  have sz_b1 : h0.size ≤ b1 := Nat.le_trans (Keep.refl h0 []).1 (Nat.le_of_eq g1.symm)
  have z2 : n0 ≤ h1.size := Nat.le_trans Z0 E1.1
  have k3 : Keep h0 h1 [] := (Keep.refl h0 []).ext E1
  have V1 : Arv Z h1 b1 k1 .double (0 : Int32) [] (.double (0 : UInt64)) := (Arv.new A1 (by decide)).pad (pad_rep [] (.double (0 : UInt64)) 0)
  have pre4 : ∀ t, Steps p.tables e below (T1.setTop (mkF m 7 #[.val (.int (0 : Int32)), .val (.double d1), .second, .val (.double d2), .second, .val (.double d3), .second, .val (.double d4), .second] [(.ref b1)])) t → Steps p.tables e below (s₁.setTop (entryFrame m #[(.int (0 : Int32)), (.double d1), (.double d2), (.double d3), (.double d4)] 9)) t := fun t kt => pre0 t (by
      show Steps p.tables e below (s₁.setTop (mkF m 0 #[.val (.int (0 : Int32)), .val (.double d1), .second, .val (.double d2), .second, .val (.double d3), .second, .val (.double d4), .second] [])) _
      refine XS.iloadN X0.here hx rfl (hb hby d1_0) rfl ?_
      show Steps p.tables e below (s₁.setTop (mkF m 1 #[.val (.int (0 : Int32)), .val (.double d1), .second, .val (.double d2), .second, .val (.double d3), .second, .val (.double d4), .second] [(.int (0 : Int32))])) _
      refine XS.ifNo X0.here hx rfl (hb hby d1_1) rfl ((if0 _ _).trans (teq ((by decide) : (0 : Int32) = (0 : Int32))).2) ?_
      show Steps p.tables e below (s₁.setTop (mkF m 4 #[.val (.int (0 : Int32)), .val (.double d1), .second, .val (.double d2), .second, .val (.double d3), .second, .val (.double d4), .second] [])) _
      refine XS.iconst X0.here hx rfl (hb hby d1_4) ?_
      show Steps p.tables e below (s₁.setTop (mkF m 5 #[.val (.int (0 : Int32)), .val (.double d1), .second, .val (.double d2), .second, .val (.double d3), .second, .val (.double d4), .second] [(.int (0 : Int32))])) _
      refine st1 _ ?_
      exact kt)
  obtain ⟨fs, hr, hrun, hended, hW, hsame⟩ := X1.leave (v := some (.ref b1)) (fun h => by rw [Bd.returns] at h; cases h)
  refine ⟨_, _, pre4 _ ?_, hrun, hended, _, _, rfl, ?_, ⟨_, rfl⟩, hW, hsame.mono (by decide) (by decide)⟩
  · show Steps p.tables e below (T1.setTop (mkF m 7 #[.val (.int (0 : Int32)), .val (.double d1), .second, .val (.double d2), .second, .val (.double d3), .second, .val (.double d4), .second] [(.ref b1)])) _
    exact own_retR X1 hx Bd.returns rfl (hb hby d1_7) hr
  · show Qmake0 Z d1 d2 d3 d4 h0 n0 _ T1.heap _
    rw [e1]
    exact ⟨b1, k1, rfl, N0, k3, sz_b1, V1⟩
theorem ef_fitS2 (m : MethodId) (a1 : Addr) : entryFrame m #[(.ref a1), (.int (2 : Int32))] 3 = mkF m 0 #[.val (.ref a1), .val (.int (2 : Int32)), .unset] [] := by first | (simp [entryFrame, mkF, argsToLocals, Value.category]; done) | rfl
def QfitS2 (Z : State) (a1 : Addr) (d1 : UInt64) (d2 : UInt64) (kk : ClassId) (h0 : Heap) (n0 : Nat) (v : Option Value) (h : Heap) (L : List Loc) : Prop := v = some (.ref a1) ∧ Fr n0 L ∧ h = h0
set_option maxRecDepth 65536 in
set_option maxHeartbeats 40000000 in
theorem rmfitS2 (l : Launch) (Z : State) (a0 : Array Value) (hw : ∀ d ∈ tables_1, d.before a0 Z = true) (ws : List Jvm.Cond) (a1 : Addr) (d1 : UInt64) (d2 : UInt64) (kk : ClassId) (h0 : Heap) (n0 : Nat) (Z0 : n0 ≤ h0.size) (P_V_a1 : Arv Z h0 a1 kk .double (2 : Int32) [(.double d1), (.double d2)] (.double (0 : UInt64))) :
    MetFree l (⟨"com/example/manyfront/manyfront/cli/ReferencePoint", "fit", "([DI)[D"⟩ : MethodName) (head1 (Jvm.Cond.code (⟨"com/example/manyfront/manyfront/cli/ReferencePoint", "fit", "([DI)[D"⟩ : MethodName) prog_10_method_2_code 3 (some (.array .double)) :: ws) ({ frames := 0, cells := 0, slots := 0, locals := 0 } : Room)) (fun a U => a = #[(.ref a1), (.int (2 : Int32))] ∧ Z.Warmed39 U.vm ∧ U.heap = h0) (fun _ _ _ _ _ => True) (fun _ U o U' => ∃ v L, o = .returned v ∧ QfitS2 Z a1 d1 d2 kk h0 n0 v U'.heap L ∧ FrameEnd U o U' L ({ frames := 0, cells := 0, slots := 0, locals := 0 } : Room).cells ({ frames := 0, cells := 0, slots := 0, locals := 0 } : Room).slots) := by
  refine MetFree.of_bodySF (plainFor_of_name pn_com_example_manyfront_manyfront_cli_ReferencePoint) hisR ?_
  intro p e s m args below meth c s₁ Bd hml0 hP hK
  obtain ⟨rfl, hZ, hh⟩ := hP
  have hx := Bd.exec
  have hby := Bd.bytes
  have hml : c.maxLocals = 3 := hml0
  have hown : s.vm.findClass "com/example/manyfront/manyfront/cli/ReferencePoint" = some m.cls := findClass_of_methodNamed Bd.named
  have hnm := (name_of_methodNamed Bd.named Bd.method).1
  have X0 : Stand p l e ({ frames := 0, cells := 0, slots := 0, locals := 0 } : Room) s m #[(.ref a1), (.int (2 : Int32))] below meth c s₁ [] 0 0 := Stand.of_body Bd
  have e0 : s₁.heap = h0 := by rw [← hh, Bd.state]; rfl
  have N0 := Fr.nil n0
  have pre0 : ∀ t, Steps p.tables e below (s₁.setTop (mkF m 0 #[.val (.ref a1), .val (.int (2 : Int32)), .unset] [])) t → Steps p.tables e below (s₁.setTop (entryFrame m #[(.ref a1), (.int (2 : Int32))] 3)) t := fun t k => castTop (ef_fitS2 m a1) k
  obtain ⟨cl1, Ar1, Q1, S1, M1, H1, G1⟩ := id P_V_a1
  obtain ⟨cl2, Ar2, Q2, S2, M2, H2, G2⟩ := id P_V_a1
  have pre3 : ∀ t, Steps p.tables e below (s₁.setTop (mkF m 61 #[.val (.ref a1), .val (.int (2 : Int32)), .unset] [(.ref a1)])) t → Steps p.tables e below (s₁.setTop (entryFrame m #[(.ref a1), (.int (2 : Int32))] 3)) t := fun t kt => pre0 t (by
      show Steps p.tables e below (s₁.setTop (mkF m 0 #[.val (.ref a1), .val (.int (2 : Int32)), .unset] [])) _
      refine XS.aloadN X0.here hx rfl (hb hby d2_0) rfl rfl ?_
      show Steps p.tables e below (s₁.setTop (mkF m 1 #[.val (.ref a1), .val (.int (2 : Int32)), .unset] [(.ref a1)])) _
      refine X0.arraylength hx (cell := cl1) (by rw [e0]; exact Ar1.1) (State.isArrayOf_alike hZ.alike Ar1.2.1) (g := (mkF m 1 #[.val (.ref a1), .val (.int (2 : Int32)), .unset] [(.ref a1)])) rfl rfl (hb hby d2_1) _ ?_
      rw [len_of S1 M1]
      show Steps p.tables e below (s₁.setTop (mkF m 2 #[.val (.ref a1), .val (.int (2 : Int32)), .unset] [(.int (2 : Int32))])) _
      refine XS.iconst X0.here hx rfl (hb hby d2_2) ?_
      show Steps p.tables e below (s₁.setTop (mkF m 3 #[.val (.ref a1), .val (.int (2 : Int32)), .unset] [(.int (1 : Int32)), (.int (2 : Int32))])) _
      refine XS.icmpYes X0.here hx rfl (pc0 := 3) (pc' := 19) rfl (hb hby d2_3) rfl (feq ((by decide) : ¬ ((2 : Int32) = (1 : Int32)))).2 (by decide) (by decide) ?_
      show Steps p.tables e below (s₁.setTop (mkF m 19 #[.val (.ref a1), .val (.int (2 : Int32)), .unset] [])) _
      refine XS.aloadN X0.here hx rfl (hb hby d2_19) rfl rfl ?_
      show Steps p.tables e below (s₁.setTop (mkF m 20 #[.val (.ref a1), .val (.int (2 : Int32)), .unset] [(.ref a1)])) _
      refine X0.arraylength hx (cell := cl2) (by rw [e0]; exact Ar2.1) (State.isArrayOf_alike hZ.alike Ar2.2.1) (g := (mkF m 20 #[.val (.ref a1), .val (.int (2 : Int32)), .unset] [(.ref a1)])) rfl rfl (hb hby d2_20) _ ?_
      rw [len_of S2 M2]
      show Steps p.tables e below (s₁.setTop (mkF m 21 #[.val (.ref a1), .val (.int (2 : Int32)), .unset] [(.int (2 : Int32))])) _
      refine XS.iloadN X0.here hx rfl (hb hby d2_21) rfl ?_
      show Steps p.tables e below (s₁.setTop (mkF m 22 #[.val (.ref a1), .val (.int (2 : Int32)), .unset] [(.int (2 : Int32)), (.int (2 : Int32))])) _
      refine XS.icmpYes X0.here hx rfl (pc0 := 22) (pc' := 60) rfl (hb hby d2_22) rfl (teq ((by decide) : (2 : Int32) = (2 : Int32))).1 (by decide) (by decide) ?_
      show Steps p.tables e below (s₁.setTop (mkF m 60 #[.val (.ref a1), .val (.int (2 : Int32)), .unset] [])) _
      refine XS.aloadN X0.here hx rfl (hb hby d2_60) rfl rfl ?_
      exact kt)
  obtain ⟨fs, hr, hrun, hended, hW, hsame⟩ := X0.leave (v := some (.ref a1)) (fun h => by rw [Bd.returns] at h; cases h)
  refine ⟨_, _, pre3 _ ?_, hrun, hended, _, _, rfl, ?_, ⟨_, rfl⟩, hW, hsame.mono (by decide) (by decide)⟩
  · show Steps p.tables e below (s₁.setTop (mkF m 61 #[.val (.ref a1), .val (.int (2 : Int32)), .unset] [(.ref a1)])) _
    exact own_retR X0 hx Bd.returns rfl (hb hby d2_61) hr
  · show QfitS2 Z a1 d1 d2 kk h0 n0 _ s₁.heap _
    rw [e0]
    exact ⟨rfl, N0, rfl⟩
theorem ef_make2 (m : MethodId) (d1 : UInt64) (d2 : UInt64) (d3 : UInt64) (d4 : UInt64) : entryFrame m #[(.int (2 : Int32)), (.double d1), (.double d2), (.double d3), (.double d4)] 9 = mkF m 0 #[.val (.int (2 : Int32)), .val (.double d1), .second, .val (.double d2), .second, .val (.double d3), .second, .val (.double d4), .second] [] := by first | (simp [entryFrame, mkF, argsToLocals, Value.category]; done) | rfl
theorem d1_8 : decode method_3_code 8 = .ok (.iload_n 0, 1) := by decide +kernel
theorem d1_9 : decode method_3_code 9 = .ok (.iconst 2, 1) := by decide +kernel
theorem d1_10 : decode method_3_code 10 = .ok (.if_icmp .ne 15, 3) := by decide +kernel
theorem d1_13 : decode method_3_code 13 = .ok (.iconst 2, 1) := by decide +kernel
theorem d1_14 : decode method_3_code 14 = .ok (.newarray .double, 2) := by decide +kernel
theorem d1_16 : decode method_3_code 16 = .ok (.dup, 1) := by decide +kernel
theorem d1_17 : decode method_3_code 17 = .ok (.iconst 0, 1) := by decide +kernel
theorem d1_18 : decode method_3_code 18 = .ok (.dload_n 1, 1) := by decide +kernel
theorem d1_19 : decode method_3_code 19 = .ok (.dastore, 1) := by decide +kernel
theorem d1_20 : decode method_3_code 20 = .ok (.dup, 1) := by decide +kernel
theorem d1_21 : decode method_3_code 21 = .ok (.iconst 1, 1) := by decide +kernel
theorem d1_22 : decode method_3_code 22 = .ok (.dload_n 3, 1) := by decide +kernel
theorem d1_23 : decode method_3_code 23 = .ok (.dastore, 1) := by decide +kernel
theorem d1_24 : decode method_3_code 24 = .ok (.areturn, 1) := by decide +kernel
def Qmake2 (Z : State) (d1 : UInt64) (d2 : UInt64) (d3 : UInt64) (d4 : UInt64) (h0 : Heap) (n0 : Nat) (v : Option Value) (h : Heap) (L : List Loc) : Prop := ∃ (b : Addr) (kb : ClassId), v = some (.ref b) ∧ Fr n0 L ∧ Keep h0 h [] ∧ (h0.size ≤ b) ∧ (Arv Z h b kb .double (2 : Int32) [(.double d1), (.double d2)] (.double (0 : UInt64)))
set_option maxRecDepth 65536 in
set_option maxHeartbeats 40000000 in
theorem rmmake2 (l : Launch) (Z : State) (a0 : Array Value) (hw : ∀ d ∈ tables_1, d.before a0 Z = true) (ws : List Jvm.Cond) (d1 : UInt64) (d2 : UInt64) (d3 : UInt64) (d4 : UInt64) (h0 : Heap) (n0 : Nat) (Z0 : n0 ≤ h0.size) :
    MetFree l (⟨"com/example/manyfront/manyfront/cli/ReferencePointFitPinLaw", "make", "(IDDDD)[D"⟩ : MethodName) (head1 (Jvm.Cond.code (⟨"com/example/manyfront/manyfront/cli/ReferencePointFitPinLaw", "make", "(IDDDD)[D"⟩ : MethodName) method_3_code 9 (some (.array .double)) :: ws) ({ frames := 0, cells := 1, slots := 2, locals := 0 } : Room)) (fun a U => a = #[(.int (2 : Int32)), (.double d1), (.double d2), (.double d3), (.double d4)] ∧ Z.Warmed39 U.vm ∧ U.heap = h0) (fun _ _ _ _ _ => True) (fun _ U o U' => ∃ v L, o = .returned v ∧ Qmake2 Z d1 d2 d3 d4 h0 n0 v U'.heap L ∧ FrameEnd U o U' L ({ frames := 0, cells := 1, slots := 2, locals := 0 } : Room).cells ({ frames := 0, cells := 1, slots := 2, locals := 0 } : Room).slots) := by
  refine MetFree.of_bodySF (plainFor_of_name pn_com_example_manyfront_manyfront_cli_ReferencePointFitPinLaw) hisR ?_
  intro p e s m args below meth c s₁ Bd hml0 hP hK
  obtain ⟨rfl, hZ, hh⟩ := hP
  have hx := Bd.exec
  have hby := Bd.bytes
  have hml : c.maxLocals = 9 := hml0
  have hown : s.vm.findClass "com/example/manyfront/manyfront/cli/ReferencePointFitPinLaw" = some m.cls := findClass_of_methodNamed Bd.named
  have hnm := (name_of_methodNamed Bd.named Bd.method).1
  have X0 : Stand p l e ({ frames := 0, cells := 1, slots := 2, locals := 0 } : Room) s m #[(.int (2 : Int32)), (.double d1), (.double d2), (.double d3), (.double d4)] below meth c s₁ [] 0 0 := Stand.of_body Bd
  have e0 : s₁.heap = h0 := by rw [← hh, Bd.state]; rfl
  have N0 := Fr.nil n0
  have pre0 : ∀ t, Steps p.tables e below (s₁.setTop (mkF m 0 #[.val (.int (2 : Int32)), .val (.double d1), .second, .val (.double d2), .second, .val (.double d3), .second, .val (.double d4), .second] [])) t → Steps p.tables e below (s₁.setTop (entryFrame m #[(.int (2 : Int32)), (.double d1), (.double d2), (.double d3), (.double d4)] 9)) t := fun t k => castTop (ef_make2 m d1 d2 d3 d4) k
  obtain ⟨T1, h1, k1, X1, e1, E1, A1, st1⟩ := newP X0 hx hZ (hw _ (List.mem_of_getElem? (i := 4) rfl)) e0 (g := (mkF m 14 #[.val (.int (2 : Int32)), .val (.double d1), .second, .val (.double d2), .second, .val (.double d3), .second, .val (.double d4), .second] [(.int (2 : Int32))])) rfl (hb hby d1_14) rfl (by decide) (cap := 2) (by decide) (by decide) (by decide) (by decide)
  obtain ⟨b1, g1⟩ : ∃ z, z = h0.size := ⟨_, rfl⟩
  rw [← g1] at A1 st1
  have g_b1 : n0 ≤ b1 := Nat.le_trans Z0 (Nat.le_of_eq g1.symm)
  have sz_b1 : h0.size ≤ b1 := Nat.le_trans (Keep.refl h0 []).1 (Nat.le_of_eq g1.symm)
  have z2 : n0 ≤ h1.size := Nat.le_trans Z0 E1.1
  have k3 : Keep h0 h1 [] := (Keep.refl h0 []).ext E1
  have V1 : Arv Z h1 b1 k1 .double (2 : Int32) [(.double (0 : UInt64)), (.double (0 : UInt64))] (.double (0 : UInt64)) := (Arv.new A1 (by decide)).pad (pad_rep [] (.double (0 : UInt64)) 2)
  obtain ⟨cl4, Ar4, Q4, S4, M4, H4, G4⟩ := id V1
  have in5 : ¬ ((0 : Int32) < 0 ∨ cl4.slots.size ≤ ((0 : Int32)).toNatClampNeg) := inb_of S4 ⟨by decide, by decide⟩
  obtain ⟨T6, h6, X6, e6, W6, st6⟩ := stD X1 hx hZ e1 Ar4 (j := (0 : Int32)) in5 (g := (mkF m 19 #[.val (.int (2 : Int32)), .val (.double d1), .second, .val (.double d2), .second, .val (.double d3), .second, .val (.double d4), .second] [(.double d1), (.int (0 : Int32)), (.ref b1), (.ref b1)])) rfl rfl (hb hby d1_19)
  have z7 : n0 ≤ h6.size := Nat.le_trans z2 (Keep.of_wr W6).1
  have k8 : Keep h0 h6 [] := k3.wr W6 (Or.inr sz_b1)
  have V6 : Arv Z h6 b1 k1 .double (2 : Int32) [(.double d1), (.double (0 : UInt64))] (.double (0 : UInt64)) := Arv.set Ar4 Q4 S4 M4 H4 G4 rfl W6 0 rfl (Nat.le_of_ble_eq_true rfl)
  have N6 : Fr n0 _ := Fr.snoc X6 N0 g_b1
  obtain ⟨cl9, Ar9, Q9, S9, M9, H9, G9⟩ := id V6
  have in10 : ¬ ((1 : Int32) < 0 ∨ cl9.slots.size ≤ ((1 : Int32)).toNatClampNeg) := inb_of S9 ⟨by decide, by decide⟩
  obtain ⟨T11, h11, X11, e11, W11, st11⟩ := stD X6 hx hZ e6 Ar9 (j := (1 : Int32)) in10 (g := (mkF m 23 #[.val (.int (2 : Int32)), .val (.double d1), .second, .val (.double d2), .second, .val (.double d3), .second, .val (.double d4), .second] [(.double d2), (.int (1 : Int32)), (.ref b1), (.ref b1)])) rfl rfl (hb hby d1_23)
  have z12 : n0 ≤ h11.size := Nat.le_trans z7 (Keep.of_wr W11).1
  have k13 : Keep h0 h11 [] := k8.wr W11 (Or.inr sz_b1)
  have V11 : Arv Z h11 b1 k1 .double (2 : Int32) [(.double d1), (.double d2)] (.double (0 : UInt64)) := Arv.set Ar9 Q9 S9 M9 H9 G9 rfl W11 1 rfl (Nat.le_of_ble_eq_true rfl)
  have N11 : Fr n0 _ := Fr.snoc X11 N6 g_b1
  have pre14 : ∀ t, Steps p.tables e below (T11.setTop (mkF m 24 #[.val (.int (2 : Int32)), .val (.double d1), .second, .val (.double d2), .second, .val (.double d3), .second, .val (.double d4), .second] [(.ref b1)])) t → Steps p.tables e below (s₁.setTop (entryFrame m #[(.int (2 : Int32)), (.double d1), (.double d2), (.double d3), (.double d4)] 9)) t := fun t kt => pre0 t (by
      show Steps p.tables e below (s₁.setTop (mkF m 0 #[.val (.int (2 : Int32)), .val (.double d1), .second, .val (.double d2), .second, .val (.double d3), .second, .val (.double d4), .second] [])) _
      refine XS.iloadN X0.here hx rfl (hb hby d1_0) rfl ?_
      show Steps p.tables e below (s₁.setTop (mkF m 1 #[.val (.int (2 : Int32)), .val (.double d1), .second, .val (.double d2), .second, .val (.double d3), .second, .val (.double d4), .second] [(.int (2 : Int32))])) _
      refine XS.ifYes X0.here hx rfl (pc0 := 1) (pc' := 8) rfl (hb hby d1_1) rfl ((if0 _ _).trans (feq ((by decide) : ¬ ((2 : Int32) = (0 : Int32)))).2) (by decide) (by decide) ?_
      show Steps p.tables e below (s₁.setTop (mkF m 8 #[.val (.int (2 : Int32)), .val (.double d1), .second, .val (.double d2), .second, .val (.double d3), .second, .val (.double d4), .second] [])) _
      refine XS.iloadN X0.here hx rfl (hb hby d1_8) rfl ?_
      show Steps p.tables e below (s₁.setTop (mkF m 9 #[.val (.int (2 : Int32)), .val (.double d1), .second, .val (.double d2), .second, .val (.double d3), .second, .val (.double d4), .second] [(.int (2 : Int32))])) _
      refine XS.iconst X0.here hx rfl (hb hby d1_9) ?_
      show Steps p.tables e below (s₁.setTop (mkF m 10 #[.val (.int (2 : Int32)), .val (.double d1), .second, .val (.double d2), .second, .val (.double d3), .second, .val (.double d4), .second] [(.int (2 : Int32)), (.int (2 : Int32))])) _
      refine XS.icmpNo X0.here hx rfl (hb hby d1_10) rfl (teq ((by decide) : (2 : Int32) = (2 : Int32))).2 ?_
      show Steps p.tables e below (s₁.setTop (mkF m 13 #[.val (.int (2 : Int32)), .val (.double d1), .second, .val (.double d2), .second, .val (.double d3), .second, .val (.double d4), .second] [])) _
      refine XS.iconst X0.here hx rfl (hb hby d1_13) ?_
      show Steps p.tables e below (s₁.setTop (mkF m 14 #[.val (.int (2 : Int32)), .val (.double d1), .second, .val (.double d2), .second, .val (.double d3), .second, .val (.double d4), .second] [(.int (2 : Int32))])) _
      refine st1 _ ?_
      show Steps p.tables e below (T1.setTop (mkF m 16 #[.val (.int (2 : Int32)), .val (.double d1), .second, .val (.double d2), .second, .val (.double d3), .second, .val (.double d4), .second] [(.ref b1)])) _
      refine XS.dup X1.here hx rfl (hb hby d1_16) rfl rfl ?_
      show Steps p.tables e below (T1.setTop (mkF m 17 #[.val (.int (2 : Int32)), .val (.double d1), .second, .val (.double d2), .second, .val (.double d3), .second, .val (.double d4), .second] [(.ref b1), (.ref b1)])) _
      refine XS.iconst X1.here hx rfl (hb hby d1_17) ?_
      show Steps p.tables e below (T1.setTop (mkF m 18 #[.val (.int (2 : Int32)), .val (.double d1), .second, .val (.double d2), .second, .val (.double d3), .second, .val (.double d4), .second] [(.int (0 : Int32)), (.ref b1), (.ref b1)])) _
      refine XS.dloadN X1.here hx rfl (hb hby d1_18) rfl ?_
      show Steps p.tables e below (T1.setTop (mkF m 19 #[.val (.int (2 : Int32)), .val (.double d1), .second, .val (.double d2), .second, .val (.double d3), .second, .val (.double d4), .second] [(.double d1), (.int (0 : Int32)), (.ref b1), (.ref b1)])) _
      refine st6 _ ?_
      show Steps p.tables e below (T6.setTop (mkF m 20 #[.val (.int (2 : Int32)), .val (.double d1), .second, .val (.double d2), .second, .val (.double d3), .second, .val (.double d4), .second] [(.ref b1)])) _
      refine XS.dup X6.here hx rfl (hb hby d1_20) rfl rfl ?_
      show Steps p.tables e below (T6.setTop (mkF m 21 #[.val (.int (2 : Int32)), .val (.double d1), .second, .val (.double d2), .second, .val (.double d3), .second, .val (.double d4), .second] [(.ref b1), (.ref b1)])) _
      refine XS.iconst X6.here hx rfl (hb hby d1_21) ?_
      show Steps p.tables e below (T6.setTop (mkF m 22 #[.val (.int (2 : Int32)), .val (.double d1), .second, .val (.double d2), .second, .val (.double d3), .second, .val (.double d4), .second] [(.int (1 : Int32)), (.ref b1), (.ref b1)])) _
      refine XS.dloadN X6.here hx rfl (hb hby d1_22) rfl ?_
      show Steps p.tables e below (T6.setTop (mkF m 23 #[.val (.int (2 : Int32)), .val (.double d1), .second, .val (.double d2), .second, .val (.double d3), .second, .val (.double d4), .second] [(.double d2), (.int (1 : Int32)), (.ref b1), (.ref b1)])) _
      refine st11 _ ?_
      exact kt)
  obtain ⟨fs, hr, hrun, hended, hW, hsame⟩ := X11.leave (v := some (.ref b1)) (fun h => by rw [Bd.returns] at h; cases h)
  refine ⟨_, _, pre14 _ ?_, hrun, hended, _, _, rfl, ?_, ⟨_, rfl⟩, hW, hsame.mono (by decide) (by decide)⟩
  · show Steps p.tables e below (T11.setTop (mkF m 24 #[.val (.int (2 : Int32)), .val (.double d1), .second, .val (.double d2), .second, .val (.double d3), .second, .val (.double d4), .second] [(.ref b1)])) _
    exact own_retR X11 hx Bd.returns rfl (hb hby d1_24) hr
  · show Qmake2 Z d1 d2 d3 d4 h0 n0 _ T11.heap _
    rw [e11]
    exact ⟨b1, k1, rfl, N11, k13, sz_b1, V11⟩
theorem ef_fitS3 (m : MethodId) (a1 : Addr) : entryFrame m #[(.ref a1), (.int (3 : Int32))] 3 = mkF m 0 #[.val (.ref a1), .val (.int (3 : Int32)), .unset] [] := by first | (simp [entryFrame, mkF, argsToLocals, Value.category]; done) | rfl
def QfitS3 (Z : State) (a1 : Addr) (d1 : UInt64) (d2 : UInt64) (d3 : UInt64) (kk : ClassId) (h0 : Heap) (n0 : Nat) (v : Option Value) (h : Heap) (L : List Loc) : Prop := v = some (.ref a1) ∧ Fr n0 L ∧ h = h0
set_option maxRecDepth 65536 in
set_option maxHeartbeats 40000000 in
theorem rmfitS3 (l : Launch) (Z : State) (a0 : Array Value) (hw : ∀ d ∈ tables_1, d.before a0 Z = true) (ws : List Jvm.Cond) (a1 : Addr) (d1 : UInt64) (d2 : UInt64) (d3 : UInt64) (kk : ClassId) (h0 : Heap) (n0 : Nat) (Z0 : n0 ≤ h0.size) (P_V_a1 : Arv Z h0 a1 kk .double (3 : Int32) [(.double d1), (.double d2), (.double d3)] (.double (0 : UInt64))) :
    MetFree l (⟨"com/example/manyfront/manyfront/cli/ReferencePoint", "fit", "([DI)[D"⟩ : MethodName) (head1 (Jvm.Cond.code (⟨"com/example/manyfront/manyfront/cli/ReferencePoint", "fit", "([DI)[D"⟩ : MethodName) prog_10_method_2_code 3 (some (.array .double)) :: ws) ({ frames := 0, cells := 0, slots := 0, locals := 0 } : Room)) (fun a U => a = #[(.ref a1), (.int (3 : Int32))] ∧ Z.Warmed39 U.vm ∧ U.heap = h0) (fun _ _ _ _ _ => True) (fun _ U o U' => ∃ v L, o = .returned v ∧ QfitS3 Z a1 d1 d2 d3 kk h0 n0 v U'.heap L ∧ FrameEnd U o U' L ({ frames := 0, cells := 0, slots := 0, locals := 0 } : Room).cells ({ frames := 0, cells := 0, slots := 0, locals := 0 } : Room).slots) := by
  refine MetFree.of_bodySF (plainFor_of_name pn_com_example_manyfront_manyfront_cli_ReferencePoint) hisR ?_
  intro p e s m args below meth c s₁ Bd hml0 hP hK
  obtain ⟨rfl, hZ, hh⟩ := hP
  have hx := Bd.exec
  have hby := Bd.bytes
  have hml : c.maxLocals = 3 := hml0
  have hown : s.vm.findClass "com/example/manyfront/manyfront/cli/ReferencePoint" = some m.cls := findClass_of_methodNamed Bd.named
  have hnm := (name_of_methodNamed Bd.named Bd.method).1
  have X0 : Stand p l e ({ frames := 0, cells := 0, slots := 0, locals := 0 } : Room) s m #[(.ref a1), (.int (3 : Int32))] below meth c s₁ [] 0 0 := Stand.of_body Bd
  have e0 : s₁.heap = h0 := by rw [← hh, Bd.state]; rfl
  have N0 := Fr.nil n0
  have pre0 : ∀ t, Steps p.tables e below (s₁.setTop (mkF m 0 #[.val (.ref a1), .val (.int (3 : Int32)), .unset] [])) t → Steps p.tables e below (s₁.setTop (entryFrame m #[(.ref a1), (.int (3 : Int32))] 3)) t := fun t k => castTop (ef_fitS3 m a1) k
  obtain ⟨cl1, Ar1, Q1, S1, M1, H1, G1⟩ := id P_V_a1
  obtain ⟨cl2, Ar2, Q2, S2, M2, H2, G2⟩ := id P_V_a1
  have pre3 : ∀ t, Steps p.tables e below (s₁.setTop (mkF m 61 #[.val (.ref a1), .val (.int (3 : Int32)), .unset] [(.ref a1)])) t → Steps p.tables e below (s₁.setTop (entryFrame m #[(.ref a1), (.int (3 : Int32))] 3)) t := fun t kt => pre0 t (by
      show Steps p.tables e below (s₁.setTop (mkF m 0 #[.val (.ref a1), .val (.int (3 : Int32)), .unset] [])) _
      refine XS.aloadN X0.here hx rfl (hb hby d2_0) rfl rfl ?_
      show Steps p.tables e below (s₁.setTop (mkF m 1 #[.val (.ref a1), .val (.int (3 : Int32)), .unset] [(.ref a1)])) _
      refine X0.arraylength hx (cell := cl1) (by rw [e0]; exact Ar1.1) (State.isArrayOf_alike hZ.alike Ar1.2.1) (g := (mkF m 1 #[.val (.ref a1), .val (.int (3 : Int32)), .unset] [(.ref a1)])) rfl rfl (hb hby d2_1) _ ?_
      rw [len_of S1 M1]
      show Steps p.tables e below (s₁.setTop (mkF m 2 #[.val (.ref a1), .val (.int (3 : Int32)), .unset] [(.int (3 : Int32))])) _
      refine XS.iconst X0.here hx rfl (hb hby d2_2) ?_
      show Steps p.tables e below (s₁.setTop (mkF m 3 #[.val (.ref a1), .val (.int (3 : Int32)), .unset] [(.int (1 : Int32)), (.int (3 : Int32))])) _
      refine XS.icmpYes X0.here hx rfl (pc0 := 3) (pc' := 19) rfl (hb hby d2_3) rfl (feq ((by decide) : ¬ ((3 : Int32) = (1 : Int32)))).2 (by decide) (by decide) ?_
      show Steps p.tables e below (s₁.setTop (mkF m 19 #[.val (.ref a1), .val (.int (3 : Int32)), .unset] [])) _
      refine XS.aloadN X0.here hx rfl (hb hby d2_19) rfl rfl ?_
      show Steps p.tables e below (s₁.setTop (mkF m 20 #[.val (.ref a1), .val (.int (3 : Int32)), .unset] [(.ref a1)])) _
      refine X0.arraylength hx (cell := cl2) (by rw [e0]; exact Ar2.1) (State.isArrayOf_alike hZ.alike Ar2.2.1) (g := (mkF m 20 #[.val (.ref a1), .val (.int (3 : Int32)), .unset] [(.ref a1)])) rfl rfl (hb hby d2_20) _ ?_
      rw [len_of S2 M2]
      show Steps p.tables e below (s₁.setTop (mkF m 21 #[.val (.ref a1), .val (.int (3 : Int32)), .unset] [(.int (3 : Int32))])) _
      refine XS.iloadN X0.here hx rfl (hb hby d2_21) rfl ?_
      show Steps p.tables e below (s₁.setTop (mkF m 22 #[.val (.ref a1), .val (.int (3 : Int32)), .unset] [(.int (3 : Int32)), (.int (3 : Int32))])) _
      refine XS.icmpYes X0.here hx rfl (pc0 := 22) (pc' := 60) rfl (hb hby d2_22) rfl (teq ((by decide) : (3 : Int32) = (3 : Int32))).1 (by decide) (by decide) ?_
      show Steps p.tables e below (s₁.setTop (mkF m 60 #[.val (.ref a1), .val (.int (3 : Int32)), .unset] [])) _
      refine XS.aloadN X0.here hx rfl (hb hby d2_60) rfl rfl ?_
      exact kt)
  obtain ⟨fs, hr, hrun, hended, hW, hsame⟩ := X0.leave (v := some (.ref a1)) (fun h => by rw [Bd.returns] at h; cases h)
  refine ⟨_, _, pre3 _ ?_, hrun, hended, _, _, rfl, ?_, ⟨_, rfl⟩, hW, hsame.mono (by decide) (by decide)⟩
  · show Steps p.tables e below (s₁.setTop (mkF m 61 #[.val (.ref a1), .val (.int (3 : Int32)), .unset] [(.ref a1)])) _
    exact own_retR X0 hx Bd.returns rfl (hb hby d2_61) hr
  · show QfitS3 Z a1 d1 d2 d3 kk h0 n0 _ s₁.heap _
    rw [e0]
    exact ⟨rfl, N0, rfl⟩
theorem ef_make3 (m : MethodId) (d1 : UInt64) (d2 : UInt64) (d3 : UInt64) (d4 : UInt64) : entryFrame m #[(.int (3 : Int32)), (.double d1), (.double d2), (.double d3), (.double d4)] 9 = mkF m 0 #[.val (.int (3 : Int32)), .val (.double d1), .second, .val (.double d2), .second, .val (.double d3), .second, .val (.double d4), .second] [] := by first | (simp [entryFrame, mkF, argsToLocals, Value.category]; done) | rfl
theorem d1_25 : decode method_3_code 25 = .ok (.iload_n 0, 1) := by decide +kernel
theorem d1_26 : decode method_3_code 26 = .ok (.iconst 3, 1) := by decide +kernel
theorem d1_27 : decode method_3_code 27 = .ok (.if_icmp .ne 20, 3) := by decide +kernel
theorem d1_30 : decode method_3_code 30 = .ok (.iconst 3, 1) := by decide +kernel
theorem d1_31 : decode method_3_code 31 = .ok (.newarray .double, 2) := by decide +kernel
theorem d1_33 : decode method_3_code 33 = .ok (.dup, 1) := by decide +kernel
theorem d1_34 : decode method_3_code 34 = .ok (.iconst 0, 1) := by decide +kernel
theorem d1_35 : decode method_3_code 35 = .ok (.dload_n 1, 1) := by decide +kernel
theorem d1_36 : decode method_3_code 36 = .ok (.dastore, 1) := by decide +kernel
theorem d1_37 : decode method_3_code 37 = .ok (.dup, 1) := by decide +kernel
theorem d1_38 : decode method_3_code 38 = .ok (.iconst 1, 1) := by decide +kernel
theorem d1_39 : decode method_3_code 39 = .ok (.dload_n 3, 1) := by decide +kernel
theorem d1_40 : decode method_3_code 40 = .ok (.dastore, 1) := by decide +kernel
theorem d1_41 : decode method_3_code 41 = .ok (.dup, 1) := by decide +kernel
theorem d1_42 : decode method_3_code 42 = .ok (.iconst 2, 1) := by decide +kernel
theorem d1_43 : decode method_3_code 43 = .ok (.dload 5, 2) := by decide +kernel
theorem d1_45 : decode method_3_code 45 = .ok (.dastore, 1) := by decide +kernel
theorem d1_46 : decode method_3_code 46 = .ok (.areturn, 1) := by decide +kernel
def Qmake3 (Z : State) (d1 : UInt64) (d2 : UInt64) (d3 : UInt64) (d4 : UInt64) (h0 : Heap) (n0 : Nat) (v : Option Value) (h : Heap) (L : List Loc) : Prop := ∃ (b : Addr) (kb : ClassId), v = some (.ref b) ∧ Fr n0 L ∧ Keep h0 h [] ∧ (h0.size ≤ b) ∧ (Arv Z h b kb .double (3 : Int32) [(.double d1), (.double d2), (.double d3)] (.double (0 : UInt64)))
set_option maxRecDepth 65536 in
set_option maxHeartbeats 40000000 in
theorem rmmake3 (l : Launch) (Z : State) (a0 : Array Value) (hw : ∀ d ∈ tables_1, d.before a0 Z = true) (ws : List Jvm.Cond) (d1 : UInt64) (d2 : UInt64) (d3 : UInt64) (d4 : UInt64) (h0 : Heap) (n0 : Nat) (Z0 : n0 ≤ h0.size) :
    MetFree l (⟨"com/example/manyfront/manyfront/cli/ReferencePointFitPinLaw", "make", "(IDDDD)[D"⟩ : MethodName) (head1 (Jvm.Cond.code (⟨"com/example/manyfront/manyfront/cli/ReferencePointFitPinLaw", "make", "(IDDDD)[D"⟩ : MethodName) method_3_code 9 (some (.array .double)) :: ws) ({ frames := 0, cells := 1, slots := 3, locals := 0 } : Room)) (fun a U => a = #[(.int (3 : Int32)), (.double d1), (.double d2), (.double d3), (.double d4)] ∧ Z.Warmed39 U.vm ∧ U.heap = h0) (fun _ _ _ _ _ => True) (fun _ U o U' => ∃ v L, o = .returned v ∧ Qmake3 Z d1 d2 d3 d4 h0 n0 v U'.heap L ∧ FrameEnd U o U' L ({ frames := 0, cells := 1, slots := 3, locals := 0 } : Room).cells ({ frames := 0, cells := 1, slots := 3, locals := 0 } : Room).slots) := by
  refine MetFree.of_bodySF (plainFor_of_name pn_com_example_manyfront_manyfront_cli_ReferencePointFitPinLaw) hisR ?_
  intro p e s m args below meth c s₁ Bd hml0 hP hK
  obtain ⟨rfl, hZ, hh⟩ := hP
  have hx := Bd.exec
  have hby := Bd.bytes
  have hml : c.maxLocals = 9 := hml0
  have hown : s.vm.findClass "com/example/manyfront/manyfront/cli/ReferencePointFitPinLaw" = some m.cls := findClass_of_methodNamed Bd.named
  have hnm := (name_of_methodNamed Bd.named Bd.method).1
  have X0 : Stand p l e ({ frames := 0, cells := 1, slots := 3, locals := 0 } : Room) s m #[(.int (3 : Int32)), (.double d1), (.double d2), (.double d3), (.double d4)] below meth c s₁ [] 0 0 := Stand.of_body Bd
  have e0 : s₁.heap = h0 := by rw [← hh, Bd.state]; rfl
  have N0 := Fr.nil n0
  have pre0 : ∀ t, Steps p.tables e below (s₁.setTop (mkF m 0 #[.val (.int (3 : Int32)), .val (.double d1), .second, .val (.double d2), .second, .val (.double d3), .second, .val (.double d4), .second] [])) t → Steps p.tables e below (s₁.setTop (entryFrame m #[(.int (3 : Int32)), (.double d1), (.double d2), (.double d3), (.double d4)] 9)) t := fun t k => castTop (ef_make3 m d1 d2 d3 d4) k
  obtain ⟨T1, h1, k1, X1, e1, E1, A1, st1⟩ := newP X0 hx hZ (hw _ (List.mem_of_getElem? (i := 4) rfl)) e0 (g := (mkF m 31 #[.val (.int (3 : Int32)), .val (.double d1), .second, .val (.double d2), .second, .val (.double d3), .second, .val (.double d4), .second] [(.int (3 : Int32))])) rfl (hb hby d1_31) rfl (by decide) (cap := 3) (by decide) (by decide) (by decide) (by decide)
  obtain ⟨b1, g1⟩ : ∃ z, z = h0.size := ⟨_, rfl⟩
  rw [← g1] at A1 st1
  have g_b1 : n0 ≤ b1 := Nat.le_trans Z0 (Nat.le_of_eq g1.symm)
  have sz_b1 : h0.size ≤ b1 := Nat.le_trans (Keep.refl h0 []).1 (Nat.le_of_eq g1.symm)
  have z2 : n0 ≤ h1.size := Nat.le_trans Z0 E1.1
  have k3 : Keep h0 h1 [] := (Keep.refl h0 []).ext E1
  have V1 : Arv Z h1 b1 k1 .double (3 : Int32) [(.double (0 : UInt64)), (.double (0 : UInt64)), (.double (0 : UInt64))] (.double (0 : UInt64)) := (Arv.new A1 (by decide)).pad (pad_rep [] (.double (0 : UInt64)) 3)
  obtain ⟨cl4, Ar4, Q4, S4, M4, H4, G4⟩ := id V1
  have in5 : ¬ ((0 : Int32) < 0 ∨ cl4.slots.size ≤ ((0 : Int32)).toNatClampNeg) := inb_of S4 ⟨by decide, by decide⟩
  obtain ⟨T6, h6, X6, e6, W6, st6⟩ := stD X1 hx hZ e1 Ar4 (j := (0 : Int32)) in5 (g := (mkF m 36 #[.val (.int (3 : Int32)), .val (.double d1), .second, .val (.double d2), .second, .val (.double d3), .second, .val (.double d4), .second] [(.double d1), (.int (0 : Int32)), (.ref b1), (.ref b1)])) rfl rfl (hb hby d1_36)
  have z7 : n0 ≤ h6.size := Nat.le_trans z2 (Keep.of_wr W6).1
  have k8 : Keep h0 h6 [] := k3.wr W6 (Or.inr sz_b1)
  have V6 : Arv Z h6 b1 k1 .double (3 : Int32) [(.double d1), (.double (0 : UInt64)), (.double (0 : UInt64))] (.double (0 : UInt64)) := Arv.set Ar4 Q4 S4 M4 H4 G4 rfl W6 0 rfl (Nat.le_of_ble_eq_true rfl)
  have N6 : Fr n0 _ := Fr.snoc X6 N0 g_b1
  obtain ⟨cl9, Ar9, Q9, S9, M9, H9, G9⟩ := id V6
  have in10 : ¬ ((1 : Int32) < 0 ∨ cl9.slots.size ≤ ((1 : Int32)).toNatClampNeg) := inb_of S9 ⟨by decide, by decide⟩
  obtain ⟨T11, h11, X11, e11, W11, st11⟩ := stD X6 hx hZ e6 Ar9 (j := (1 : Int32)) in10 (g := (mkF m 40 #[.val (.int (3 : Int32)), .val (.double d1), .second, .val (.double d2), .second, .val (.double d3), .second, .val (.double d4), .second] [(.double d2), (.int (1 : Int32)), (.ref b1), (.ref b1)])) rfl rfl (hb hby d1_40)
  have z12 : n0 ≤ h11.size := Nat.le_trans z7 (Keep.of_wr W11).1
  have k13 : Keep h0 h11 [] := k8.wr W11 (Or.inr sz_b1)
  have V11 : Arv Z h11 b1 k1 .double (3 : Int32) [(.double d1), (.double d2), (.double (0 : UInt64))] (.double (0 : UInt64)) := Arv.set Ar9 Q9 S9 M9 H9 G9 rfl W11 1 rfl (Nat.le_of_ble_eq_true rfl)
  have N11 : Fr n0 _ := Fr.snoc X11 N6 g_b1
  obtain ⟨cl14, Ar14, Q14, S14, M14, H14, G14⟩ := id V11
  have in15 : ¬ ((2 : Int32) < 0 ∨ cl14.slots.size ≤ ((2 : Int32)).toNatClampNeg) := inb_of S14 ⟨by decide, by decide⟩
  obtain ⟨T16, h16, X16, e16, W16, st16⟩ := stD X11 hx hZ e11 Ar14 (j := (2 : Int32)) in15 (g := (mkF m 45 #[.val (.int (3 : Int32)), .val (.double d1), .second, .val (.double d2), .second, .val (.double d3), .second, .val (.double d4), .second] [(.double d3), (.int (2 : Int32)), (.ref b1), (.ref b1)])) rfl rfl (hb hby d1_45)
  have z17 : n0 ≤ h16.size := Nat.le_trans z12 (Keep.of_wr W16).1
  have k18 : Keep h0 h16 [] := k13.wr W16 (Or.inr sz_b1)
  have V16 : Arv Z h16 b1 k1 .double (3 : Int32) [(.double d1), (.double d2), (.double d3)] (.double (0 : UInt64)) := Arv.set Ar14 Q14 S14 M14 H14 G14 rfl W16 2 rfl (Nat.le_of_ble_eq_true rfl)
  have N16 : Fr n0 _ := Fr.snoc X16 N11 g_b1
  have pre19 : ∀ t, Steps p.tables e below (T16.setTop (mkF m 46 #[.val (.int (3 : Int32)), .val (.double d1), .second, .val (.double d2), .second, .val (.double d3), .second, .val (.double d4), .second] [(.ref b1)])) t → Steps p.tables e below (s₁.setTop (entryFrame m #[(.int (3 : Int32)), (.double d1), (.double d2), (.double d3), (.double d4)] 9)) t := fun t kt => pre0 t (by
      show Steps p.tables e below (s₁.setTop (mkF m 0 #[.val (.int (3 : Int32)), .val (.double d1), .second, .val (.double d2), .second, .val (.double d3), .second, .val (.double d4), .second] [])) _
      refine XS.iloadN X0.here hx rfl (hb hby d1_0) rfl ?_
      show Steps p.tables e below (s₁.setTop (mkF m 1 #[.val (.int (3 : Int32)), .val (.double d1), .second, .val (.double d2), .second, .val (.double d3), .second, .val (.double d4), .second] [(.int (3 : Int32))])) _
      refine XS.ifYes X0.here hx rfl (pc0 := 1) (pc' := 8) rfl (hb hby d1_1) rfl ((if0 _ _).trans (feq ((by decide) : ¬ ((3 : Int32) = (0 : Int32)))).2) (by decide) (by decide) ?_
      show Steps p.tables e below (s₁.setTop (mkF m 8 #[.val (.int (3 : Int32)), .val (.double d1), .second, .val (.double d2), .second, .val (.double d3), .second, .val (.double d4), .second] [])) _
      refine XS.iloadN X0.here hx rfl (hb hby d1_8) rfl ?_
      show Steps p.tables e below (s₁.setTop (mkF m 9 #[.val (.int (3 : Int32)), .val (.double d1), .second, .val (.double d2), .second, .val (.double d3), .second, .val (.double d4), .second] [(.int (3 : Int32))])) _
      refine XS.iconst X0.here hx rfl (hb hby d1_9) ?_
      show Steps p.tables e below (s₁.setTop (mkF m 10 #[.val (.int (3 : Int32)), .val (.double d1), .second, .val (.double d2), .second, .val (.double d3), .second, .val (.double d4), .second] [(.int (2 : Int32)), (.int (3 : Int32))])) _
      refine XS.icmpYes X0.here hx rfl (pc0 := 10) (pc' := 25) rfl (hb hby d1_10) rfl (feq ((by decide) : ¬ ((3 : Int32) = (2 : Int32)))).2 (by decide) (by decide) ?_
      show Steps p.tables e below (s₁.setTop (mkF m 25 #[.val (.int (3 : Int32)), .val (.double d1), .second, .val (.double d2), .second, .val (.double d3), .second, .val (.double d4), .second] [])) _
      refine XS.iloadN X0.here hx rfl (hb hby d1_25) rfl ?_
      show Steps p.tables e below (s₁.setTop (mkF m 26 #[.val (.int (3 : Int32)), .val (.double d1), .second, .val (.double d2), .second, .val (.double d3), .second, .val (.double d4), .second] [(.int (3 : Int32))])) _
      refine XS.iconst X0.here hx rfl (hb hby d1_26) ?_
      show Steps p.tables e below (s₁.setTop (mkF m 27 #[.val (.int (3 : Int32)), .val (.double d1), .second, .val (.double d2), .second, .val (.double d3), .second, .val (.double d4), .second] [(.int (3 : Int32)), (.int (3 : Int32))])) _
      refine XS.icmpNo X0.here hx rfl (hb hby d1_27) rfl (teq ((by decide) : (3 : Int32) = (3 : Int32))).2 ?_
      show Steps p.tables e below (s₁.setTop (mkF m 30 #[.val (.int (3 : Int32)), .val (.double d1), .second, .val (.double d2), .second, .val (.double d3), .second, .val (.double d4), .second] [])) _
      refine XS.iconst X0.here hx rfl (hb hby d1_30) ?_
      show Steps p.tables e below (s₁.setTop (mkF m 31 #[.val (.int (3 : Int32)), .val (.double d1), .second, .val (.double d2), .second, .val (.double d3), .second, .val (.double d4), .second] [(.int (3 : Int32))])) _
      refine st1 _ ?_
      show Steps p.tables e below (T1.setTop (mkF m 33 #[.val (.int (3 : Int32)), .val (.double d1), .second, .val (.double d2), .second, .val (.double d3), .second, .val (.double d4), .second] [(.ref b1)])) _
      refine XS.dup X1.here hx rfl (hb hby d1_33) rfl rfl ?_
      show Steps p.tables e below (T1.setTop (mkF m 34 #[.val (.int (3 : Int32)), .val (.double d1), .second, .val (.double d2), .second, .val (.double d3), .second, .val (.double d4), .second] [(.ref b1), (.ref b1)])) _
      refine XS.iconst X1.here hx rfl (hb hby d1_34) ?_
      show Steps p.tables e below (T1.setTop (mkF m 35 #[.val (.int (3 : Int32)), .val (.double d1), .second, .val (.double d2), .second, .val (.double d3), .second, .val (.double d4), .second] [(.int (0 : Int32)), (.ref b1), (.ref b1)])) _
      refine XS.dloadN X1.here hx rfl (hb hby d1_35) rfl ?_
      show Steps p.tables e below (T1.setTop (mkF m 36 #[.val (.int (3 : Int32)), .val (.double d1), .second, .val (.double d2), .second, .val (.double d3), .second, .val (.double d4), .second] [(.double d1), (.int (0 : Int32)), (.ref b1), (.ref b1)])) _
      refine st6 _ ?_
      show Steps p.tables e below (T6.setTop (mkF m 37 #[.val (.int (3 : Int32)), .val (.double d1), .second, .val (.double d2), .second, .val (.double d3), .second, .val (.double d4), .second] [(.ref b1)])) _
      refine XS.dup X6.here hx rfl (hb hby d1_37) rfl rfl ?_
      show Steps p.tables e below (T6.setTop (mkF m 38 #[.val (.int (3 : Int32)), .val (.double d1), .second, .val (.double d2), .second, .val (.double d3), .second, .val (.double d4), .second] [(.ref b1), (.ref b1)])) _
      refine XS.iconst X6.here hx rfl (hb hby d1_38) ?_
      show Steps p.tables e below (T6.setTop (mkF m 39 #[.val (.int (3 : Int32)), .val (.double d1), .second, .val (.double d2), .second, .val (.double d3), .second, .val (.double d4), .second] [(.int (1 : Int32)), (.ref b1), (.ref b1)])) _
      refine XS.dloadN X6.here hx rfl (hb hby d1_39) rfl ?_
      show Steps p.tables e below (T6.setTop (mkF m 40 #[.val (.int (3 : Int32)), .val (.double d1), .second, .val (.double d2), .second, .val (.double d3), .second, .val (.double d4), .second] [(.double d2), (.int (1 : Int32)), (.ref b1), (.ref b1)])) _
      refine st11 _ ?_
      show Steps p.tables e below (T11.setTop (mkF m 41 #[.val (.int (3 : Int32)), .val (.double d1), .second, .val (.double d2), .second, .val (.double d3), .second, .val (.double d4), .second] [(.ref b1)])) _
      refine XS.dup X11.here hx rfl (hb hby d1_41) rfl rfl ?_
      show Steps p.tables e below (T11.setTop (mkF m 42 #[.val (.int (3 : Int32)), .val (.double d1), .second, .val (.double d2), .second, .val (.double d3), .second, .val (.double d4), .second] [(.ref b1), (.ref b1)])) _
      refine XS.iconst X11.here hx rfl (hb hby d1_42) ?_
      show Steps p.tables e below (T11.setTop (mkF m 43 #[.val (.int (3 : Int32)), .val (.double d1), .second, .val (.double d2), .second, .val (.double d3), .second, .val (.double d4), .second] [(.int (2 : Int32)), (.ref b1), (.ref b1)])) _
      refine XS.dload X11.here hx rfl (hb hby d1_43) rfl ?_
      show Steps p.tables e below (T11.setTop (mkF m 45 #[.val (.int (3 : Int32)), .val (.double d1), .second, .val (.double d2), .second, .val (.double d3), .second, .val (.double d4), .second] [(.double d3), (.int (2 : Int32)), (.ref b1), (.ref b1)])) _
      refine st16 _ ?_
      exact kt)
  obtain ⟨fs, hr, hrun, hended, hW, hsame⟩ := X16.leave (v := some (.ref b1)) (fun h => by rw [Bd.returns] at h; cases h)
  refine ⟨_, _, pre19 _ ?_, hrun, hended, _, _, rfl, ?_, ⟨_, rfl⟩, hW, hsame.mono (by decide) (by decide)⟩
  · show Steps p.tables e below (T16.setTop (mkF m 46 #[.val (.int (3 : Int32)), .val (.double d1), .second, .val (.double d2), .second, .val (.double d3), .second, .val (.double d4), .second] [(.ref b1)])) _
    exact own_retR X16 hx Bd.returns rfl (hb hby d1_46) hr
  · show Qmake3 Z d1 d2 d3 d4 h0 n0 _ T16.heap _
    rw [e16]
    exact ⟨b1, k1, rfl, N16, k18, sz_b1, V16⟩
theorem ef_fitS4 (m : MethodId) (a1 : Addr) : entryFrame m #[(.ref a1), (.int (4 : Int32))] 3 = mkF m 0 #[.val (.ref a1), .val (.int (4 : Int32)), .unset] [] := by first | (simp [entryFrame, mkF, argsToLocals, Value.category]; done) | rfl
def QfitS4 (Z : State) (a1 : Addr) (d1 : UInt64) (d2 : UInt64) (d3 : UInt64) (d4 : UInt64) (kk : ClassId) (h0 : Heap) (n0 : Nat) (v : Option Value) (h : Heap) (L : List Loc) : Prop := v = some (.ref a1) ∧ Fr n0 L ∧ h = h0
set_option maxRecDepth 65536 in
set_option maxHeartbeats 40000000 in
theorem rmfitS4 (l : Launch) (Z : State) (a0 : Array Value) (hw : ∀ d ∈ tables_1, d.before a0 Z = true) (ws : List Jvm.Cond) (a1 : Addr) (d1 : UInt64) (d2 : UInt64) (d3 : UInt64) (d4 : UInt64) (kk : ClassId) (h0 : Heap) (n0 : Nat) (Z0 : n0 ≤ h0.size) (P_V_a1 : Arv Z h0 a1 kk .double (4 : Int32) [(.double d1), (.double d2), (.double d3), (.double d4)] (.double (0 : UInt64))) :
    MetFree l (⟨"com/example/manyfront/manyfront/cli/ReferencePoint", "fit", "([DI)[D"⟩ : MethodName) (head1 (Jvm.Cond.code (⟨"com/example/manyfront/manyfront/cli/ReferencePoint", "fit", "([DI)[D"⟩ : MethodName) prog_10_method_2_code 3 (some (.array .double)) :: ws) ({ frames := 0, cells := 0, slots := 0, locals := 0 } : Room)) (fun a U => a = #[(.ref a1), (.int (4 : Int32))] ∧ Z.Warmed39 U.vm ∧ U.heap = h0) (fun _ _ _ _ _ => True) (fun _ U o U' => ∃ v L, o = .returned v ∧ QfitS4 Z a1 d1 d2 d3 d4 kk h0 n0 v U'.heap L ∧ FrameEnd U o U' L ({ frames := 0, cells := 0, slots := 0, locals := 0 } : Room).cells ({ frames := 0, cells := 0, slots := 0, locals := 0 } : Room).slots) := by
  refine MetFree.of_bodySF (plainFor_of_name pn_com_example_manyfront_manyfront_cli_ReferencePoint) hisR ?_
  intro p e s m args below meth c s₁ Bd hml0 hP hK
  obtain ⟨rfl, hZ, hh⟩ := hP
  have hx := Bd.exec
  have hby := Bd.bytes
  have hml : c.maxLocals = 3 := hml0
  have hown : s.vm.findClass "com/example/manyfront/manyfront/cli/ReferencePoint" = some m.cls := findClass_of_methodNamed Bd.named
  have hnm := (name_of_methodNamed Bd.named Bd.method).1
  have X0 : Stand p l e ({ frames := 0, cells := 0, slots := 0, locals := 0 } : Room) s m #[(.ref a1), (.int (4 : Int32))] below meth c s₁ [] 0 0 := Stand.of_body Bd
  have e0 : s₁.heap = h0 := by rw [← hh, Bd.state]; rfl
  have N0 := Fr.nil n0
  have pre0 : ∀ t, Steps p.tables e below (s₁.setTop (mkF m 0 #[.val (.ref a1), .val (.int (4 : Int32)), .unset] [])) t → Steps p.tables e below (s₁.setTop (entryFrame m #[(.ref a1), (.int (4 : Int32))] 3)) t := fun t k => castTop (ef_fitS4 m a1) k
  obtain ⟨cl1, Ar1, Q1, S1, M1, H1, G1⟩ := id P_V_a1
  obtain ⟨cl2, Ar2, Q2, S2, M2, H2, G2⟩ := id P_V_a1
  have pre3 : ∀ t, Steps p.tables e below (s₁.setTop (mkF m 61 #[.val (.ref a1), .val (.int (4 : Int32)), .unset] [(.ref a1)])) t → Steps p.tables e below (s₁.setTop (entryFrame m #[(.ref a1), (.int (4 : Int32))] 3)) t := fun t kt => pre0 t (by
      show Steps p.tables e below (s₁.setTop (mkF m 0 #[.val (.ref a1), .val (.int (4 : Int32)), .unset] [])) _
      refine XS.aloadN X0.here hx rfl (hb hby d2_0) rfl rfl ?_
      show Steps p.tables e below (s₁.setTop (mkF m 1 #[.val (.ref a1), .val (.int (4 : Int32)), .unset] [(.ref a1)])) _
      refine X0.arraylength hx (cell := cl1) (by rw [e0]; exact Ar1.1) (State.isArrayOf_alike hZ.alike Ar1.2.1) (g := (mkF m 1 #[.val (.ref a1), .val (.int (4 : Int32)), .unset] [(.ref a1)])) rfl rfl (hb hby d2_1) _ ?_
      rw [len_of S1 M1]
      show Steps p.tables e below (s₁.setTop (mkF m 2 #[.val (.ref a1), .val (.int (4 : Int32)), .unset] [(.int (4 : Int32))])) _
      refine XS.iconst X0.here hx rfl (hb hby d2_2) ?_
      show Steps p.tables e below (s₁.setTop (mkF m 3 #[.val (.ref a1), .val (.int (4 : Int32)), .unset] [(.int (1 : Int32)), (.int (4 : Int32))])) _
      refine XS.icmpYes X0.here hx rfl (pc0 := 3) (pc' := 19) rfl (hb hby d2_3) rfl (feq ((by decide) : ¬ ((4 : Int32) = (1 : Int32)))).2 (by decide) (by decide) ?_
      show Steps p.tables e below (s₁.setTop (mkF m 19 #[.val (.ref a1), .val (.int (4 : Int32)), .unset] [])) _
      refine XS.aloadN X0.here hx rfl (hb hby d2_19) rfl rfl ?_
      show Steps p.tables e below (s₁.setTop (mkF m 20 #[.val (.ref a1), .val (.int (4 : Int32)), .unset] [(.ref a1)])) _
      refine X0.arraylength hx (cell := cl2) (by rw [e0]; exact Ar2.1) (State.isArrayOf_alike hZ.alike Ar2.2.1) (g := (mkF m 20 #[.val (.ref a1), .val (.int (4 : Int32)), .unset] [(.ref a1)])) rfl rfl (hb hby d2_20) _ ?_
      rw [len_of S2 M2]
      show Steps p.tables e below (s₁.setTop (mkF m 21 #[.val (.ref a1), .val (.int (4 : Int32)), .unset] [(.int (4 : Int32))])) _
      refine XS.iloadN X0.here hx rfl (hb hby d2_21) rfl ?_
      show Steps p.tables e below (s₁.setTop (mkF m 22 #[.val (.ref a1), .val (.int (4 : Int32)), .unset] [(.int (4 : Int32)), (.int (4 : Int32))])) _
      refine XS.icmpYes X0.here hx rfl (pc0 := 22) (pc' := 60) rfl (hb hby d2_22) rfl (teq ((by decide) : (4 : Int32) = (4 : Int32))).1 (by decide) (by decide) ?_
      show Steps p.tables e below (s₁.setTop (mkF m 60 #[.val (.ref a1), .val (.int (4 : Int32)), .unset] [])) _
      refine XS.aloadN X0.here hx rfl (hb hby d2_60) rfl rfl ?_
      exact kt)
  obtain ⟨fs, hr, hrun, hended, hW, hsame⟩ := X0.leave (v := some (.ref a1)) (fun h => by rw [Bd.returns] at h; cases h)
  refine ⟨_, _, pre3 _ ?_, hrun, hended, _, _, rfl, ?_, ⟨_, rfl⟩, hW, hsame.mono (by decide) (by decide)⟩
  · show Steps p.tables e below (s₁.setTop (mkF m 61 #[.val (.ref a1), .val (.int (4 : Int32)), .unset] [(.ref a1)])) _
    exact own_retR X0 hx Bd.returns rfl (hb hby d2_61) hr
  · show QfitS4 Z a1 d1 d2 d3 d4 kk h0 n0 _ s₁.heap _
    rw [e0]
    exact ⟨rfl, N0, rfl⟩
theorem ef_make4 (m : MethodId) (d1 : UInt64) (d2 : UInt64) (d3 : UInt64) (d4 : UInt64) : entryFrame m #[(.int (4 : Int32)), (.double d1), (.double d2), (.double d3), (.double d4)] 9 = mkF m 0 #[.val (.int (4 : Int32)), .val (.double d1), .second, .val (.double d2), .second, .val (.double d3), .second, .val (.double d4), .second] [] := by first | (simp [entryFrame, mkF, argsToLocals, Value.category]; done) | rfl
theorem d1_47 : decode method_3_code 47 = .ok (.iconst 4, 1) := by decide +kernel
theorem d1_48 : decode method_3_code 48 = .ok (.newarray .double, 2) := by decide +kernel
theorem d1_50 : decode method_3_code 50 = .ok (.dup, 1) := by decide +kernel
theorem d1_51 : decode method_3_code 51 = .ok (.iconst 0, 1) := by decide +kernel
theorem d1_52 : decode method_3_code 52 = .ok (.dload_n 1, 1) := by decide +kernel
theorem d1_53 : decode method_3_code 53 = .ok (.dastore, 1) := by decide +kernel
theorem d1_54 : decode method_3_code 54 = .ok (.dup, 1) := by decide +kernel
theorem d1_55 : decode method_3_code 55 = .ok (.iconst 1, 1) := by decide +kernel
theorem d1_56 : decode method_3_code 56 = .ok (.dload_n 3, 1) := by decide +kernel
theorem d1_57 : decode method_3_code 57 = .ok (.dastore, 1) := by decide +kernel
theorem d1_58 : decode method_3_code 58 = .ok (.dup, 1) := by decide +kernel
theorem d1_59 : decode method_3_code 59 = .ok (.iconst 2, 1) := by decide +kernel
theorem d1_60 : decode method_3_code 60 = .ok (.dload 5, 2) := by decide +kernel
theorem d1_62 : decode method_3_code 62 = .ok (.dastore, 1) := by decide +kernel
theorem d1_63 : decode method_3_code 63 = .ok (.dup, 1) := by decide +kernel
theorem d1_64 : decode method_3_code 64 = .ok (.iconst 3, 1) := by decide +kernel
theorem d1_65 : decode method_3_code 65 = .ok (.dload 7, 2) := by decide +kernel
theorem d1_67 : decode method_3_code 67 = .ok (.dastore, 1) := by decide +kernel
theorem d1_68 : decode method_3_code 68 = .ok (.areturn, 1) := by decide +kernel
def Qmake4 (Z : State) (d1 : UInt64) (d2 : UInt64) (d3 : UInt64) (d4 : UInt64) (h0 : Heap) (n0 : Nat) (v : Option Value) (h : Heap) (L : List Loc) : Prop := ∃ (b : Addr) (kb : ClassId), v = some (.ref b) ∧ Fr n0 L ∧ Keep h0 h [] ∧ (h0.size ≤ b) ∧ (Arv Z h b kb .double (4 : Int32) [(.double d1), (.double d2), (.double d3), (.double d4)] (.double (0 : UInt64)))
set_option maxRecDepth 65536 in
set_option maxHeartbeats 40000000 in
theorem rmmake4 (l : Launch) (Z : State) (a0 : Array Value) (hw : ∀ d ∈ tables_1, d.before a0 Z = true) (ws : List Jvm.Cond) (d1 : UInt64) (d2 : UInt64) (d3 : UInt64) (d4 : UInt64) (h0 : Heap) (n0 : Nat) (Z0 : n0 ≤ h0.size) :
    MetFree l (⟨"com/example/manyfront/manyfront/cli/ReferencePointFitPinLaw", "make", "(IDDDD)[D"⟩ : MethodName) (head1 (Jvm.Cond.code (⟨"com/example/manyfront/manyfront/cli/ReferencePointFitPinLaw", "make", "(IDDDD)[D"⟩ : MethodName) method_3_code 9 (some (.array .double)) :: ws) ({ frames := 0, cells := 1, slots := 4, locals := 0 } : Room)) (fun a U => a = #[(.int (4 : Int32)), (.double d1), (.double d2), (.double d3), (.double d4)] ∧ Z.Warmed39 U.vm ∧ U.heap = h0) (fun _ _ _ _ _ => True) (fun _ U o U' => ∃ v L, o = .returned v ∧ Qmake4 Z d1 d2 d3 d4 h0 n0 v U'.heap L ∧ FrameEnd U o U' L ({ frames := 0, cells := 1, slots := 4, locals := 0 } : Room).cells ({ frames := 0, cells := 1, slots := 4, locals := 0 } : Room).slots) := by
  refine MetFree.of_bodySF (plainFor_of_name pn_com_example_manyfront_manyfront_cli_ReferencePointFitPinLaw) hisR ?_
  intro p e s m args below meth c s₁ Bd hml0 hP hK
  obtain ⟨rfl, hZ, hh⟩ := hP
  have hx := Bd.exec
  have hby := Bd.bytes
  have hml : c.maxLocals = 9 := hml0
  have hown : s.vm.findClass "com/example/manyfront/manyfront/cli/ReferencePointFitPinLaw" = some m.cls := findClass_of_methodNamed Bd.named
  have hnm := (name_of_methodNamed Bd.named Bd.method).1
  have X0 : Stand p l e ({ frames := 0, cells := 1, slots := 4, locals := 0 } : Room) s m #[(.int (4 : Int32)), (.double d1), (.double d2), (.double d3), (.double d4)] below meth c s₁ [] 0 0 := Stand.of_body Bd
  have e0 : s₁.heap = h0 := by rw [← hh, Bd.state]; rfl
  have N0 := Fr.nil n0
  have pre0 : ∀ t, Steps p.tables e below (s₁.setTop (mkF m 0 #[.val (.int (4 : Int32)), .val (.double d1), .second, .val (.double d2), .second, .val (.double d3), .second, .val (.double d4), .second] [])) t → Steps p.tables e below (s₁.setTop (entryFrame m #[(.int (4 : Int32)), (.double d1), (.double d2), (.double d3), (.double d4)] 9)) t := fun t k => castTop (ef_make4 m d1 d2 d3 d4) k
  obtain ⟨T1, h1, k1, X1, e1, E1, A1, st1⟩ := newP X0 hx hZ (hw _ (List.mem_of_getElem? (i := 4) rfl)) e0 (g := (mkF m 48 #[.val (.int (4 : Int32)), .val (.double d1), .second, .val (.double d2), .second, .val (.double d3), .second, .val (.double d4), .second] [(.int (4 : Int32))])) rfl (hb hby d1_48) rfl (by decide) (cap := 4) (by decide) (by decide) (by decide) (by decide)
  obtain ⟨b1, g1⟩ : ∃ z, z = h0.size := ⟨_, rfl⟩
  rw [← g1] at A1 st1
  have g_b1 : n0 ≤ b1 := Nat.le_trans Z0 (Nat.le_of_eq g1.symm)
  have sz_b1 : h0.size ≤ b1 := Nat.le_trans (Keep.refl h0 []).1 (Nat.le_of_eq g1.symm)
  have z2 : n0 ≤ h1.size := Nat.le_trans Z0 E1.1
  have k3 : Keep h0 h1 [] := (Keep.refl h0 []).ext E1
  have V1 : Arv Z h1 b1 k1 .double (4 : Int32) [(.double (0 : UInt64)), (.double (0 : UInt64)), (.double (0 : UInt64)), (.double (0 : UInt64))] (.double (0 : UInt64)) := (Arv.new A1 (by decide)).pad (pad_rep [] (.double (0 : UInt64)) 4)
  obtain ⟨cl4, Ar4, Q4, S4, M4, H4, G4⟩ := id V1
  have in5 : ¬ ((0 : Int32) < 0 ∨ cl4.slots.size ≤ ((0 : Int32)).toNatClampNeg) := inb_of S4 ⟨by decide, by decide⟩
  obtain ⟨T6, h6, X6, e6, W6, st6⟩ := stD X1 hx hZ e1 Ar4 (j := (0 : Int32)) in5 (g := (mkF m 53 #[.val (.int (4 : Int32)), .val (.double d1), .second, .val (.double d2), .second, .val (.double d3), .second, .val (.double d4), .second] [(.double d1), (.int (0 : Int32)), (.ref b1), (.ref b1)])) rfl rfl (hb hby d1_53)
  have z7 : n0 ≤ h6.size := Nat.le_trans z2 (Keep.of_wr W6).1
  have k8 : Keep h0 h6 [] := k3.wr W6 (Or.inr sz_b1)
  have V6 : Arv Z h6 b1 k1 .double (4 : Int32) [(.double d1), (.double (0 : UInt64)), (.double (0 : UInt64)), (.double (0 : UInt64))] (.double (0 : UInt64)) := Arv.set Ar4 Q4 S4 M4 H4 G4 rfl W6 0 rfl (Nat.le_of_ble_eq_true rfl)
  have N6 : Fr n0 _ := Fr.snoc X6 N0 g_b1
  obtain ⟨cl9, Ar9, Q9, S9, M9, H9, G9⟩ := id V6
  have in10 : ¬ ((1 : Int32) < 0 ∨ cl9.slots.size ≤ ((1 : Int32)).toNatClampNeg) := inb_of S9 ⟨by decide, by decide⟩
  obtain ⟨T11, h11, X11, e11, W11, st11⟩ := stD X6 hx hZ e6 Ar9 (j := (1 : Int32)) in10 (g := (mkF m 57 #[.val (.int (4 : Int32)), .val (.double d1), .second, .val (.double d2), .second, .val (.double d3), .second, .val (.double d4), .second] [(.double d2), (.int (1 : Int32)), (.ref b1), (.ref b1)])) rfl rfl (hb hby d1_57)
  have z12 : n0 ≤ h11.size := Nat.le_trans z7 (Keep.of_wr W11).1
  have k13 : Keep h0 h11 [] := k8.wr W11 (Or.inr sz_b1)
  have V11 : Arv Z h11 b1 k1 .double (4 : Int32) [(.double d1), (.double d2), (.double (0 : UInt64)), (.double (0 : UInt64))] (.double (0 : UInt64)) := Arv.set Ar9 Q9 S9 M9 H9 G9 rfl W11 1 rfl (Nat.le_of_ble_eq_true rfl)
  have N11 : Fr n0 _ := Fr.snoc X11 N6 g_b1
  obtain ⟨cl14, Ar14, Q14, S14, M14, H14, G14⟩ := id V11
  have in15 : ¬ ((2 : Int32) < 0 ∨ cl14.slots.size ≤ ((2 : Int32)).toNatClampNeg) := inb_of S14 ⟨by decide, by decide⟩
  obtain ⟨T16, h16, X16, e16, W16, st16⟩ := stD X11 hx hZ e11 Ar14 (j := (2 : Int32)) in15 (g := (mkF m 62 #[.val (.int (4 : Int32)), .val (.double d1), .second, .val (.double d2), .second, .val (.double d3), .second, .val (.double d4), .second] [(.double d3), (.int (2 : Int32)), (.ref b1), (.ref b1)])) rfl rfl (hb hby d1_62)
  have z17 : n0 ≤ h16.size := Nat.le_trans z12 (Keep.of_wr W16).1
  have k18 : Keep h0 h16 [] := k13.wr W16 (Or.inr sz_b1)
  have V16 : Arv Z h16 b1 k1 .double (4 : Int32) [(.double d1), (.double d2), (.double d3), (.double (0 : UInt64))] (.double (0 : UInt64)) := Arv.set Ar14 Q14 S14 M14 H14 G14 rfl W16 2 rfl (Nat.le_of_ble_eq_true rfl)
  have N16 : Fr n0 _ := Fr.snoc X16 N11 g_b1
  obtain ⟨cl19, Ar19, Q19, S19, M19, H19, G19⟩ := id V16
  have in20 : ¬ ((3 : Int32) < 0 ∨ cl19.slots.size ≤ ((3 : Int32)).toNatClampNeg) := inb_of S19 ⟨by decide, by decide⟩
  obtain ⟨T21, h21, X21, e21, W21, st21⟩ := stD X16 hx hZ e16 Ar19 (j := (3 : Int32)) in20 (g := (mkF m 67 #[.val (.int (4 : Int32)), .val (.double d1), .second, .val (.double d2), .second, .val (.double d3), .second, .val (.double d4), .second] [(.double d4), (.int (3 : Int32)), (.ref b1), (.ref b1)])) rfl rfl (hb hby d1_67)
  have z22 : n0 ≤ h21.size := Nat.le_trans z17 (Keep.of_wr W21).1
  have k23 : Keep h0 h21 [] := k18.wr W21 (Or.inr sz_b1)
  have V21 : Arv Z h21 b1 k1 .double (4 : Int32) [(.double d1), (.double d2), (.double d3), (.double d4)] (.double (0 : UInt64)) := Arv.set Ar19 Q19 S19 M19 H19 G19 rfl W21 3 rfl (Nat.le_of_ble_eq_true rfl)
  have N21 : Fr n0 _ := Fr.snoc X21 N16 g_b1
  have pre24 : ∀ t, Steps p.tables e below (T21.setTop (mkF m 68 #[.val (.int (4 : Int32)), .val (.double d1), .second, .val (.double d2), .second, .val (.double d3), .second, .val (.double d4), .second] [(.ref b1)])) t → Steps p.tables e below (s₁.setTop (entryFrame m #[(.int (4 : Int32)), (.double d1), (.double d2), (.double d3), (.double d4)] 9)) t := fun t kt => pre0 t (by
      show Steps p.tables e below (s₁.setTop (mkF m 0 #[.val (.int (4 : Int32)), .val (.double d1), .second, .val (.double d2), .second, .val (.double d3), .second, .val (.double d4), .second] [])) _
      refine XS.iloadN X0.here hx rfl (hb hby d1_0) rfl ?_
      show Steps p.tables e below (s₁.setTop (mkF m 1 #[.val (.int (4 : Int32)), .val (.double d1), .second, .val (.double d2), .second, .val (.double d3), .second, .val (.double d4), .second] [(.int (4 : Int32))])) _
      refine XS.ifYes X0.here hx rfl (pc0 := 1) (pc' := 8) rfl (hb hby d1_1) rfl ((if0 _ _).trans (feq ((by decide) : ¬ ((4 : Int32) = (0 : Int32)))).2) (by decide) (by decide) ?_
      show Steps p.tables e below (s₁.setTop (mkF m 8 #[.val (.int (4 : Int32)), .val (.double d1), .second, .val (.double d2), .second, .val (.double d3), .second, .val (.double d4), .second] [])) _
      refine XS.iloadN X0.here hx rfl (hb hby d1_8) rfl ?_
      show Steps p.tables e below (s₁.setTop (mkF m 9 #[.val (.int (4 : Int32)), .val (.double d1), .second, .val (.double d2), .second, .val (.double d3), .second, .val (.double d4), .second] [(.int (4 : Int32))])) _
      refine XS.iconst X0.here hx rfl (hb hby d1_9) ?_
      show Steps p.tables e below (s₁.setTop (mkF m 10 #[.val (.int (4 : Int32)), .val (.double d1), .second, .val (.double d2), .second, .val (.double d3), .second, .val (.double d4), .second] [(.int (2 : Int32)), (.int (4 : Int32))])) _
      refine XS.icmpYes X0.here hx rfl (pc0 := 10) (pc' := 25) rfl (hb hby d1_10) rfl (feq ((by decide) : ¬ ((4 : Int32) = (2 : Int32)))).2 (by decide) (by decide) ?_
      show Steps p.tables e below (s₁.setTop (mkF m 25 #[.val (.int (4 : Int32)), .val (.double d1), .second, .val (.double d2), .second, .val (.double d3), .second, .val (.double d4), .second] [])) _
      refine XS.iloadN X0.here hx rfl (hb hby d1_25) rfl ?_
      show Steps p.tables e below (s₁.setTop (mkF m 26 #[.val (.int (4 : Int32)), .val (.double d1), .second, .val (.double d2), .second, .val (.double d3), .second, .val (.double d4), .second] [(.int (4 : Int32))])) _
      refine XS.iconst X0.here hx rfl (hb hby d1_26) ?_
      show Steps p.tables e below (s₁.setTop (mkF m 27 #[.val (.int (4 : Int32)), .val (.double d1), .second, .val (.double d2), .second, .val (.double d3), .second, .val (.double d4), .second] [(.int (3 : Int32)), (.int (4 : Int32))])) _
      refine XS.icmpYes X0.here hx rfl (pc0 := 27) (pc' := 47) rfl (hb hby d1_27) rfl (feq ((by decide) : ¬ ((4 : Int32) = (3 : Int32)))).2 (by decide) (by decide) ?_
      show Steps p.tables e below (s₁.setTop (mkF m 47 #[.val (.int (4 : Int32)), .val (.double d1), .second, .val (.double d2), .second, .val (.double d3), .second, .val (.double d4), .second] [])) _
      refine XS.iconst X0.here hx rfl (hb hby d1_47) ?_
      show Steps p.tables e below (s₁.setTop (mkF m 48 #[.val (.int (4 : Int32)), .val (.double d1), .second, .val (.double d2), .second, .val (.double d3), .second, .val (.double d4), .second] [(.int (4 : Int32))])) _
      refine st1 _ ?_
      show Steps p.tables e below (T1.setTop (mkF m 50 #[.val (.int (4 : Int32)), .val (.double d1), .second, .val (.double d2), .second, .val (.double d3), .second, .val (.double d4), .second] [(.ref b1)])) _
      refine XS.dup X1.here hx rfl (hb hby d1_50) rfl rfl ?_
      show Steps p.tables e below (T1.setTop (mkF m 51 #[.val (.int (4 : Int32)), .val (.double d1), .second, .val (.double d2), .second, .val (.double d3), .second, .val (.double d4), .second] [(.ref b1), (.ref b1)])) _
      refine XS.iconst X1.here hx rfl (hb hby d1_51) ?_
      show Steps p.tables e below (T1.setTop (mkF m 52 #[.val (.int (4 : Int32)), .val (.double d1), .second, .val (.double d2), .second, .val (.double d3), .second, .val (.double d4), .second] [(.int (0 : Int32)), (.ref b1), (.ref b1)])) _
      refine XS.dloadN X1.here hx rfl (hb hby d1_52) rfl ?_
      show Steps p.tables e below (T1.setTop (mkF m 53 #[.val (.int (4 : Int32)), .val (.double d1), .second, .val (.double d2), .second, .val (.double d3), .second, .val (.double d4), .second] [(.double d1), (.int (0 : Int32)), (.ref b1), (.ref b1)])) _
      refine st6 _ ?_
      show Steps p.tables e below (T6.setTop (mkF m 54 #[.val (.int (4 : Int32)), .val (.double d1), .second, .val (.double d2), .second, .val (.double d3), .second, .val (.double d4), .second] [(.ref b1)])) _
      refine XS.dup X6.here hx rfl (hb hby d1_54) rfl rfl ?_
      show Steps p.tables e below (T6.setTop (mkF m 55 #[.val (.int (4 : Int32)), .val (.double d1), .second, .val (.double d2), .second, .val (.double d3), .second, .val (.double d4), .second] [(.ref b1), (.ref b1)])) _
      refine XS.iconst X6.here hx rfl (hb hby d1_55) ?_
      show Steps p.tables e below (T6.setTop (mkF m 56 #[.val (.int (4 : Int32)), .val (.double d1), .second, .val (.double d2), .second, .val (.double d3), .second, .val (.double d4), .second] [(.int (1 : Int32)), (.ref b1), (.ref b1)])) _
      refine XS.dloadN X6.here hx rfl (hb hby d1_56) rfl ?_
      show Steps p.tables e below (T6.setTop (mkF m 57 #[.val (.int (4 : Int32)), .val (.double d1), .second, .val (.double d2), .second, .val (.double d3), .second, .val (.double d4), .second] [(.double d2), (.int (1 : Int32)), (.ref b1), (.ref b1)])) _
      refine st11 _ ?_
      show Steps p.tables e below (T11.setTop (mkF m 58 #[.val (.int (4 : Int32)), .val (.double d1), .second, .val (.double d2), .second, .val (.double d3), .second, .val (.double d4), .second] [(.ref b1)])) _
      refine XS.dup X11.here hx rfl (hb hby d1_58) rfl rfl ?_
      show Steps p.tables e below (T11.setTop (mkF m 59 #[.val (.int (4 : Int32)), .val (.double d1), .second, .val (.double d2), .second, .val (.double d3), .second, .val (.double d4), .second] [(.ref b1), (.ref b1)])) _
      refine XS.iconst X11.here hx rfl (hb hby d1_59) ?_
      show Steps p.tables e below (T11.setTop (mkF m 60 #[.val (.int (4 : Int32)), .val (.double d1), .second, .val (.double d2), .second, .val (.double d3), .second, .val (.double d4), .second] [(.int (2 : Int32)), (.ref b1), (.ref b1)])) _
      refine XS.dload X11.here hx rfl (hb hby d1_60) rfl ?_
      show Steps p.tables e below (T11.setTop (mkF m 62 #[.val (.int (4 : Int32)), .val (.double d1), .second, .val (.double d2), .second, .val (.double d3), .second, .val (.double d4), .second] [(.double d3), (.int (2 : Int32)), (.ref b1), (.ref b1)])) _
      refine st16 _ ?_
      show Steps p.tables e below (T16.setTop (mkF m 63 #[.val (.int (4 : Int32)), .val (.double d1), .second, .val (.double d2), .second, .val (.double d3), .second, .val (.double d4), .second] [(.ref b1)])) _
      refine XS.dup X16.here hx rfl (hb hby d1_63) rfl rfl ?_
      show Steps p.tables e below (T16.setTop (mkF m 64 #[.val (.int (4 : Int32)), .val (.double d1), .second, .val (.double d2), .second, .val (.double d3), .second, .val (.double d4), .second] [(.ref b1), (.ref b1)])) _
      refine XS.iconst X16.here hx rfl (hb hby d1_64) ?_
      show Steps p.tables e below (T16.setTop (mkF m 65 #[.val (.int (4 : Int32)), .val (.double d1), .second, .val (.double d2), .second, .val (.double d3), .second, .val (.double d4), .second] [(.int (3 : Int32)), (.ref b1), (.ref b1)])) _
      refine XS.dload X16.here hx rfl (hb hby d1_65) rfl ?_
      show Steps p.tables e below (T16.setTop (mkF m 67 #[.val (.int (4 : Int32)), .val (.double d1), .second, .val (.double d2), .second, .val (.double d3), .second, .val (.double d4), .second] [(.double d4), (.int (3 : Int32)), (.ref b1), (.ref b1)])) _
      refine st21 _ ?_
      exact kt)
  obtain ⟨fs, hr, hrun, hended, hW, hsame⟩ := X21.leave (v := some (.ref b1)) (fun h => by rw [Bd.returns] at h; cases h)
  refine ⟨_, _, pre24 _ ?_, hrun, hended, _, _, rfl, ?_, ⟨_, rfl⟩, hW, hsame.mono (by decide) (by decide)⟩
  · show Steps p.tables e below (T21.setTop (mkF m 68 #[.val (.int (4 : Int32)), .val (.double d1), .second, .val (.double d2), .second, .val (.double d3), .second, .val (.double d4), .second] [(.ref b1)])) _
    exact own_retR X21 hx Bd.returns rfl (hb hby d1_68) hr
  · show Qmake4 Z d1 d2 d3 d4 h0 n0 _ T21.heap _
    rw [e21]
    exact ⟨b1, k1, rfl, N21, k23, sz_b1, V21⟩
theorem ef_0 (m : MethodId) (p1 : Int32) (p2 : Int32) (p3 : Int32) (p4 : Int32) (p5 : Int32) (p6 : Int32) : entryFrame m #[(.int p1), (.int p2), (.int p3), (.int p4), (.int p5), (.int p6)] maxLocals = mkF m 0 #[.val (.int p1), .val (.int p2), .val (.int p3), .val (.int p4), .val (.int p5), .val (.int p6), .unset, .unset, .unset, .unset, .unset, .unset, .unset, .unset, .unset, .unset, .unset, .unset] [] := by first | (simp [entryFrame, mkF, argsToLocals, Value.category, maxLocals]; done) | rfl
theorem pd__28IDDDD_29_5bD : parseMethodDescriptor "(IDDDD)[D" = some ⟨[.int, .double, .double, .double, .double], some (.array .double)⟩ := by decide +kernel
theorem pd__28_5bDI_29_5bD : parseMethodDescriptor "([DI)[D" = some ⟨[(.array .double), .int], some (.array .double)⟩ := by decide +kernel
def Q0 (Z : State) (p1 : Int32) (p2 : Int32) (p3 : Int32) (p4 : Int32) (p5 : Int32) (p6 : Int32) (h0 : Heap) (n0 : Nat) (v : Option Value) (h : Heap) (L : List Loc) : Prop := v = some (.int (1 : Int32)) ∧ Fr n0 L
set_option maxRecDepth 65536 in
set_option maxHeartbeats 40000000 in
theorem rm0 (l : Launch) (Z : State) (a0 : Array Value) (hw : ∀ d ∈ tables_1, d.before a0 Z = true) (ws : List Jvm.Cond) (p1 : Int32) (p2 : Int32) (p3 : Int32) (p4 : Int32) (p5 : Int32) (p6 : Int32) (h0 : Heap) (n0 : Nat) (Z0 : n0 ≤ h0.size) :
    MetFree l x (head1 (Jvm.Cond.code x code maxLocals ret :: ws) room_1) (fun a U => a = #[(.int p1), (.int p2), (.int p3), (.int p4), (.int p5), (.int p6)] ∧ Z.Warmed39 U.vm ∧ U.heap = h0) (fun _ _ _ _ _ => True) (fun _ U o U' => ∃ v L, o = .returned v ∧ Q0 Z p1 p2 p3 p4 p5 p6 h0 n0 v U'.heap L ∧ FrameEnd U o U' L 16 128) := by
  refine MetFree.of_bodySF (plainFor_of_name pn_com_example_manyfront_manyfront_cli_ReferencePointFitPinLaw) hisR ?_
  intro p e s m args below meth c s₁ Bd hml0 hP hK
  obtain ⟨rfl, hZ, hh⟩ := hP
  have hx := Bd.exec
  have hby := Bd.bytes
  have hml : c.maxLocals = 18 := hml0
  have hown : s.vm.findClass "com/example/manyfront/manyfront/cli/ReferencePointFitPinLaw" = some m.cls := findClass_of_methodNamed Bd.named
  have hnm := (name_of_methodNamed Bd.named Bd.method).1
  have X0 : Stand p l e room_1 s m #[(.int p1), (.int p2), (.int p3), (.int p4), (.int p5), (.int p6)] below meth c s₁ [] 0 0 := Stand.of_body Bd
  have e0 : s₁.heap = h0 := by rw [← hh, Bd.state]; rfl
  have N0 := Fr.nil n0
  have pre0 : ∀ t, Steps p.tables e below (s₁.setTop (mkF m 0 #[.val (.int p1), .val (.int p2), .val (.int p3), .val (.int p4), .val (.int p5), .val (.int p6), .unset, .unset, .unset, .unset, .unset, .unset, .unset, .unset, .unset, .unset, .unset, .unset] [])) t → Steps p.tables e below (s₁.setTop (entryFrame m #[(.int p1), (.int p2), (.int p3), (.int p4), (.int p5), (.int p6)] maxLocals)) t := fun t k => castTop (ef_0 m p1 p2 p3 p4 p5 p6) k
  have pre1 : ∀ t, Steps p.tables e below (s₁.setTop (mkF m 21 #[.val (.int p1), .val (.int p2), .val (.int p3), .val (.int p4), .val (.int p5), .val (.int p6), .val (.double (FP.i2d p3)), .second, .val (.double (FP.i2d p4)), .second, .val (.double (FP.i2d p5)), .second, .val (.double (FP.i2d p6)), .second, .unset, .unset, .unset, .unset] [(.int (p1 &&& (1 : Int32)))])) t → Steps p.tables e below (s₁.setTop (entryFrame m #[(.int p1), (.int p2), (.int p3), (.int p4), (.int p5), (.int p6)] maxLocals)) t := fun t kt => pre0 t (by
      show Steps p.tables e below (s₁.setTop (mkF m 0 #[.val (.int p1), .val (.int p2), .val (.int p3), .val (.int p4), .val (.int p5), .val (.int p6), .unset, .unset, .unset, .unset, .unset, .unset, .unset, .unset, .unset, .unset, .unset, .unset] [])) _
      refine XS.iloadN X0.here hx rfl (hb hby at_0) rfl ?_
      show Steps p.tables e below (s₁.setTop (mkF m 1 #[.val (.int p1), .val (.int p2), .val (.int p3), .val (.int p4), .val (.int p5), .val (.int p6), .unset, .unset, .unset, .unset, .unset, .unset, .unset, .unset, .unset, .unset, .unset, .unset] [(.int p3)])) _
      refine XS.i2dS X0.here hx rfl (hb hby at_1) rfl (v := (FP.i2d p3)) rfl ?_
      show Steps p.tables e below (s₁.setTop (mkF m 2 #[.val (.int p1), .val (.int p2), .val (.int p3), .val (.int p4), .val (.int p5), .val (.int p6), .unset, .unset, .unset, .unset, .unset, .unset, .unset, .unset, .unset, .unset, .unset, .unset] [(.double (FP.i2d p3))])) _
      refine XS.dstore X0.here hx rfl (hb hby at_2) rfl (l' := #[.val (.int p1), .val (.int p2), .val (.int p3), .val (.int p4), .val (.int p5), .val (.int p6), .val (.double (FP.i2d p3)), .second, .unset, .unset, .unset, .unset, .unset, .unset, .unset, .unset, .unset, .unset]) rfl ?_
      show Steps p.tables e below (s₁.setTop (mkF m 4 #[.val (.int p1), .val (.int p2), .val (.int p3), .val (.int p4), .val (.int p5), .val (.int p6), .val (.double (FP.i2d p3)), .second, .unset, .unset, .unset, .unset, .unset, .unset, .unset, .unset, .unset, .unset] [])) _
      refine XS.iloadN X0.here hx rfl (hb hby at_4) rfl ?_
      show Steps p.tables e below (s₁.setTop (mkF m 5 #[.val (.int p1), .val (.int p2), .val (.int p3), .val (.int p4), .val (.int p5), .val (.int p6), .val (.double (FP.i2d p3)), .second, .unset, .unset, .unset, .unset, .unset, .unset, .unset, .unset, .unset, .unset] [(.int p4)])) _
      refine XS.i2dS X0.here hx rfl (hb hby at_5) rfl (v := (FP.i2d p4)) rfl ?_
      show Steps p.tables e below (s₁.setTop (mkF m 6 #[.val (.int p1), .val (.int p2), .val (.int p3), .val (.int p4), .val (.int p5), .val (.int p6), .val (.double (FP.i2d p3)), .second, .unset, .unset, .unset, .unset, .unset, .unset, .unset, .unset, .unset, .unset] [(.double (FP.i2d p4))])) _
      refine XS.dstore X0.here hx rfl (hb hby at_6) rfl (l' := #[.val (.int p1), .val (.int p2), .val (.int p3), .val (.int p4), .val (.int p5), .val (.int p6), .val (.double (FP.i2d p3)), .second, .val (.double (FP.i2d p4)), .second, .unset, .unset, .unset, .unset, .unset, .unset, .unset, .unset]) rfl ?_
      show Steps p.tables e below (s₁.setTop (mkF m 8 #[.val (.int p1), .val (.int p2), .val (.int p3), .val (.int p4), .val (.int p5), .val (.int p6), .val (.double (FP.i2d p3)), .second, .val (.double (FP.i2d p4)), .second, .unset, .unset, .unset, .unset, .unset, .unset, .unset, .unset] [])) _
      refine XS.iload X0.here hx rfl (hb hby at_8) rfl ?_
      show Steps p.tables e below (s₁.setTop (mkF m 10 #[.val (.int p1), .val (.int p2), .val (.int p3), .val (.int p4), .val (.int p5), .val (.int p6), .val (.double (FP.i2d p3)), .second, .val (.double (FP.i2d p4)), .second, .unset, .unset, .unset, .unset, .unset, .unset, .unset, .unset] [(.int p5)])) _
      refine XS.i2dS X0.here hx rfl (hb hby at_10) rfl (v := (FP.i2d p5)) rfl ?_
      show Steps p.tables e below (s₁.setTop (mkF m 11 #[.val (.int p1), .val (.int p2), .val (.int p3), .val (.int p4), .val (.int p5), .val (.int p6), .val (.double (FP.i2d p3)), .second, .val (.double (FP.i2d p4)), .second, .unset, .unset, .unset, .unset, .unset, .unset, .unset, .unset] [(.double (FP.i2d p5))])) _
      refine XS.dstore X0.here hx rfl (hb hby at_11) rfl (l' := #[.val (.int p1), .val (.int p2), .val (.int p3), .val (.int p4), .val (.int p5), .val (.int p6), .val (.double (FP.i2d p3)), .second, .val (.double (FP.i2d p4)), .second, .val (.double (FP.i2d p5)), .second, .unset, .unset, .unset, .unset, .unset, .unset]) rfl ?_
      show Steps p.tables e below (s₁.setTop (mkF m 13 #[.val (.int p1), .val (.int p2), .val (.int p3), .val (.int p4), .val (.int p5), .val (.int p6), .val (.double (FP.i2d p3)), .second, .val (.double (FP.i2d p4)), .second, .val (.double (FP.i2d p5)), .second, .unset, .unset, .unset, .unset, .unset, .unset] [])) _
      refine XS.iload X0.here hx rfl (hb hby at_13) rfl ?_
      show Steps p.tables e below (s₁.setTop (mkF m 15 #[.val (.int p1), .val (.int p2), .val (.int p3), .val (.int p4), .val (.int p5), .val (.int p6), .val (.double (FP.i2d p3)), .second, .val (.double (FP.i2d p4)), .second, .val (.double (FP.i2d p5)), .second, .unset, .unset, .unset, .unset, .unset, .unset] [(.int p6)])) _
      refine XS.i2dS X0.here hx rfl (hb hby at_15) rfl (v := (FP.i2d p6)) rfl ?_
      show Steps p.tables e below (s₁.setTop (mkF m 16 #[.val (.int p1), .val (.int p2), .val (.int p3), .val (.int p4), .val (.int p5), .val (.int p6), .val (.double (FP.i2d p3)), .second, .val (.double (FP.i2d p4)), .second, .val (.double (FP.i2d p5)), .second, .unset, .unset, .unset, .unset, .unset, .unset] [(.double (FP.i2d p6))])) _
      refine XS.dstore X0.here hx rfl (hb hby at_16) rfl (l' := #[.val (.int p1), .val (.int p2), .val (.int p3), .val (.int p4), .val (.int p5), .val (.int p6), .val (.double (FP.i2d p3)), .second, .val (.double (FP.i2d p4)), .second, .val (.double (FP.i2d p5)), .second, .val (.double (FP.i2d p6)), .second, .unset, .unset, .unset, .unset]) rfl ?_
      show Steps p.tables e below (s₁.setTop (mkF m 18 #[.val (.int p1), .val (.int p2), .val (.int p3), .val (.int p4), .val (.int p5), .val (.int p6), .val (.double (FP.i2d p3)), .second, .val (.double (FP.i2d p4)), .second, .val (.double (FP.i2d p5)), .second, .val (.double (FP.i2d p6)), .second, .unset, .unset, .unset, .unset] [])) _
      refine XS.iloadN X0.here hx rfl (hb hby at_18) rfl ?_
      show Steps p.tables e below (s₁.setTop (mkF m 19 #[.val (.int p1), .val (.int p2), .val (.int p3), .val (.int p4), .val (.int p5), .val (.int p6), .val (.double (FP.i2d p3)), .second, .val (.double (FP.i2d p4)), .second, .val (.double (FP.i2d p5)), .second, .val (.double (FP.i2d p6)), .second, .unset, .unset, .unset, .unset] [(.int p1)])) _
      refine XS.iconst X0.here hx rfl (hb hby at_19) ?_
      show Steps p.tables e below (s₁.setTop (mkF m 20 #[.val (.int p1), .val (.int p2), .val (.int p3), .val (.int p4), .val (.int p5), .val (.int p6), .val (.double (FP.i2d p3)), .second, .val (.double (FP.i2d p4)), .second, .val (.double (FP.i2d p5)), .second, .val (.double (FP.i2d p6)), .second, .unset, .unset, .unset, .unset] [(.int (1 : Int32)), (.int p1)])) _
      refine XS.iand X0.here hx rfl (hb hby at_20) rfl ?_
      exact kt)
  by_cases hc21_2 : (p1 &&& (1 : Int32)) = (0 : Int32)
  · skip
    have pre3 : ∀ t, Steps p.tables e below (s₁.setTop (mkF m 173 #[.val (.int p1), .val (.int p2), .val (.int p3), .val (.int p4), .val (.int p5), .val (.int p6), .val (.double (FP.i2d p3)), .second, .val (.double (FP.i2d p4)), .second, .val (.double (FP.i2d p5)), .second, .val (.double (FP.i2d p6)), .second, .unset, .unset, .unset, .unset] [])) t → Steps p.tables e below (s₁.setTop (entryFrame m #[(.int p1), (.int p2), (.int p3), (.int p4), (.int p5), (.int p6)] maxLocals)) t := fun t kt => pre1 t (by
        show Steps p.tables e below (s₁.setTop (mkF m 21 #[.val (.int p1), .val (.int p2), .val (.int p3), .val (.int p4), .val (.int p5), .val (.int p6), .val (.double (FP.i2d p3)), .second, .val (.double (FP.i2d p4)), .second, .val (.double (FP.i2d p5)), .second, .val (.double (FP.i2d p6)), .second, .unset, .unset, .unset, .unset] [(.int (p1 &&& (1 : Int32)))])) _
        refine XS.ifYes X0.here hx rfl (pc0 := 21) (pc' := 173) rfl (hb hby at_21) rfl ((if0 _ _).trans (teq (hc21_2 : (p1 &&& (1 : Int32)) = (0 : Int32))).1) (by decide) (by decide) ?_
        exact kt)
    rcases own_k4 p2 with hk | hk | hk | hk
    · skip
      obtain ⟨_, _, ⟨T4, L4, kk4, nn4⟩, -, X4, ⟨Lc4, hQ4, l4, y4, z4⟩, st4⟩ := Jvm.LawKit.callS X0 hx (y := (⟨"com/example/manyfront/manyfront/cli/ReferencePointFitPinLaw", "make", "(IDDDD)[D"⟩ : MethodName)) hown (mvT hZ (hw _ (List.mem_of_getElem? (i := 0) rfl))) (mvT hZ (hw _ (List.mem_of_getElem? (i := 1) rfl))) (mvT hZ (hw _ (List.mem_of_getElem? (i := 2) rfl))) (mvT hZ (hw _ (List.mem_of_getElem? (i := 3) rfl))) (by decide) (backOf (W := 0) (rmmake0 l Z a0 hw [] (FP.i2d p3) (FP.i2d p4) (FP.i2d p5) (FP.i2d p6) h0 n0 Z0 ) hZ (hw _ (List.mem_of_getElem? (i := 3) rfl)) (hw _ (List.mem_of_getElem? (i := 2) rfl)) (by decide) (by decide)) (g := (mkF m 203 #[.val (.int p1), .val (.int p2), .val (.int p3), .val (.int p4), .val (.int p5), .val (.int p6), .val (.double (FP.i2d p3)), .second, .val (.double (FP.i2d p4)), .second, .val (.double (FP.i2d p5)), .second, .val (.double (FP.i2d p6)), .second, .val (.int (0 : Int32)), .val (.int (0 : Int32)), .unset, .unset] [(.double (FP.i2d p6)), (.double (FP.i2d p5)), (.double (FP.i2d p4)), (.double (FP.i2d p3)), (.int (0 : Int32))])) rfl (by rw [hml]; rfl) (argsL := [(.int (0 : Int32)), (.double (FP.i2d p3)), (.double (FP.i2d p4)), (.double (FP.i2d p5)), (.double (FP.i2d p6))]) (rest := []) (lenOf pd__28IDDDD_29_5bD rfl) rfl (by show 2 * 0 + _ ≤ _; exact Nat.le_of_eq rfl) (hb hby at_203) (fun _ _ => ⟨rfl, e0, (by decide : 0 + 1 ≤ _), (by decide : 0 + 0 ≤ _)⟩)
      dsimp only [Pt.U, Pt.locs, Pt.cells, Pt.slots] at X4 l4 y4 z4 st4 hQ4
      subst l4 y4 z4
      obtain ⟨b_4, kb_4, rfl, N4q, K4, x4_0, x4_1⟩ := hQ4
      have N4 := Fr.app N0 N4q
      have g_b_4 : n0 ≤ b_4 := Nat.le_trans Z0 x4_0
      have z5 : n0 ≤ T4.heap.size := Nat.le_trans Z0 K4.1
      obtain ⟨_, _, ⟨T6, L6, kk6, nn6⟩, -, X6, ⟨Lc6, hQ6, l6, y6, z6⟩, st6⟩ := Jvm.LawKit.callS X4 hx (y := (⟨"com/example/manyfront/manyfront/cli/ReferencePoint", "fit", "([DI)[D"⟩ : MethodName)) hown (mvT hZ (hw _ (List.mem_of_getElem? (i := 5) rfl))) (mvT hZ (hw _ (List.mem_of_getElem? (i := 6) rfl))) (mvT hZ (hw _ (List.mem_of_getElem? (i := 7) rfl))) (mvT hZ (hw _ (List.mem_of_getElem? (i := 8) rfl))) (by decide) (backOf (W := 0) (rmfitS0 l Z a0 hw [] b_4 kb_4 T4.heap n0 z5 x4_1) hZ (hw _ (List.mem_of_getElem? (i := 8) rfl)) (hw _ (List.mem_of_getElem? (i := 7) rfl)) (by decide) (by decide)) (g := (mkF m 212 #[.val (.int p1), .val (.int p2), .val (.int p3), .val (.int p4), .val (.int p5), .val (.int p6), .val (.double (FP.i2d p3)), .second, .val (.double (FP.i2d p4)), .second, .val (.double (FP.i2d p5)), .second, .val (.double (FP.i2d p6)), .second, .val (.int (0 : Int32)), .val (.int (0 : Int32)), .val (.ref b_4), .unset] [(.int (0 : Int32)), (.ref b_4)])) rfl (by rw [hml]; rfl) (argsL := [(.ref b_4), (.int (0 : Int32))]) (rest := []) (lenOf pd__28_5bDI_29_5bD rfl) rfl (by show 2 * 0 + _ ≤ _; exact Nat.le_of_eq rfl) (hb hby at_212) (fun _ _ => ⟨rfl, rfl, (by decide : 1 + 0 ≤ _), (by decide : 0 + 0 ≤ _)⟩)
      dsimp only [Pt.U, Pt.locs, Pt.cells, Pt.slots] at X6 l6 y6 z6 st6 hQ6
      subst l6 y6 z6
      obtain ⟨rfl, N6q, e6⟩ := hQ6
      have N6 := Fr.app N4 N6q
      obtain ⟨cl7, Ar7, Q7, S7, M7, H7, G7⟩ := id x4_1
      have pre8 : ∀ t, Steps p.tables e below (T6.setTop (mkF m 308 #[.val (.int p1), .val (.int p2), .val (.int p3), .val (.int p4), .val (.int p5), .val (.int p6), .val (.double (FP.i2d p3)), .second, .val (.double (FP.i2d p4)), .second, .val (.double (FP.i2d p5)), .second, .val (.double (FP.i2d p6)), .second, .val (.int (0 : Int32)), .val (.int (0 : Int32)), .val (.ref b_4), .val (.ref b_4)] [(.int (1 : Int32))])) t → Steps p.tables e below (s₁.setTop (entryFrame m #[(.int p1), (.int p2), (.int p3), (.int p4), (.int p5), (.int p6)] maxLocals)) t := fun t kt => pre3 t (by
          show Steps p.tables e below (s₁.setTop (mkF m 173 #[.val (.int p1), .val (.int p2), .val (.int p3), .val (.int p4), .val (.int p5), .val (.int p6), .val (.double (FP.i2d p3)), .second, .val (.double (FP.i2d p4)), .second, .val (.double (FP.i2d p5)), .second, .val (.double (FP.i2d p6)), .second, .unset, .unset, .unset, .unset] [])) _
          refine XS.iloadN X0.here hx rfl (hb hby at_173) rfl ?_
          show Steps p.tables e below (s₁.setTop (mkF m 174 #[.val (.int p1), .val (.int p2), .val (.int p3), .val (.int p4), .val (.int p5), .val (.int p6), .val (.double (FP.i2d p3)), .second, .val (.double (FP.i2d p4)), .second, .val (.double (FP.i2d p5)), .second, .val (.double (FP.i2d p6)), .second, .unset, .unset, .unset, .unset] [(.int p2)])) _
          refine XS.iconst X0.here hx rfl (hb hby at_174) ?_
          show Steps p.tables e below (s₁.setTop (mkF m 175 #[.val (.int p1), .val (.int p2), .val (.int p3), .val (.int p4), .val (.int p5), .val (.int p6), .val (.double (FP.i2d p3)), .second, .val (.double (FP.i2d p4)), .second, .val (.double (FP.i2d p5)), .second, .val (.double (FP.i2d p6)), .second, .unset, .unset, .unset, .unset] [(.int (3 : Int32)), (.int p2)])) _
          refine XS.iand X0.here hx rfl (hb hby at_175) rfl ?_
          show Steps p.tables e below (s₁.setTop (mkF m 176 #[.val (.int p1), .val (.int p2), .val (.int p3), .val (.int p4), .val (.int p5), .val (.int p6), .val (.double (FP.i2d p3)), .second, .val (.double (FP.i2d p4)), .second, .val (.double (FP.i2d p5)), .second, .val (.double (FP.i2d p6)), .second, .unset, .unset, .unset, .unset] [(.int (p2 &&& (3 : Int32)))])) _
          rw [hk]
          show Steps p.tables e below (s₁.setTop (mkF m 176 #[.val (.int p1), .val (.int p2), .val (.int p3), .val (.int p4), .val (.int p5), .val (.int p6), .val (.double (FP.i2d p3)), .second, .val (.double (FP.i2d p4)), .second, .val (.double (FP.i2d p5)), .second, .val (.double (FP.i2d p6)), .second, .unset, .unset, .unset, .unset] [(.int (0 : Int32))])) _
          refine XS.istore X0.here hx rfl (hb hby at_176) rfl (l' := #[.val (.int p1), .val (.int p2), .val (.int p3), .val (.int p4), .val (.int p5), .val (.int p6), .val (.double (FP.i2d p3)), .second, .val (.double (FP.i2d p4)), .second, .val (.double (FP.i2d p5)), .second, .val (.double (FP.i2d p6)), .second, .val (.int (0 : Int32)), .unset, .unset, .unset]) rfl ?_
          show Steps p.tables e below (s₁.setTop (mkF m 178 #[.val (.int p1), .val (.int p2), .val (.int p3), .val (.int p4), .val (.int p5), .val (.int p6), .val (.double (FP.i2d p3)), .second, .val (.double (FP.i2d p4)), .second, .val (.double (FP.i2d p5)), .second, .val (.double (FP.i2d p6)), .second, .val (.int (0 : Int32)), .unset, .unset, .unset] [])) _
          refine XS.iload X0.here hx rfl (hb hby at_178) rfl ?_
          show Steps p.tables e below (s₁.setTop (mkF m 180 #[.val (.int p1), .val (.int p2), .val (.int p3), .val (.int p4), .val (.int p5), .val (.int p6), .val (.double (FP.i2d p3)), .second, .val (.double (FP.i2d p4)), .second, .val (.double (FP.i2d p5)), .second, .val (.double (FP.i2d p6)), .second, .val (.int (0 : Int32)), .unset, .unset, .unset] [(.int (0 : Int32))])) _
          refine XS.ifNo X0.here hx rfl (hb hby at_180) rfl ((if0 _ _).trans (teq ((by decide) : (0 : Int32) = (0 : Int32))).2) ?_
          show Steps p.tables e below (s₁.setTop (mkF m 183 #[.val (.int p1), .val (.int p2), .val (.int p3), .val (.int p4), .val (.int p5), .val (.int p6), .val (.double (FP.i2d p3)), .second, .val (.double (FP.i2d p4)), .second, .val (.double (FP.i2d p5)), .second, .val (.double (FP.i2d p6)), .second, .val (.int (0 : Int32)), .unset, .unset, .unset] [])) _
          refine XS.iconst X0.here hx rfl (hb hby at_183) ?_
          show Steps p.tables e below (s₁.setTop (mkF m 184 #[.val (.int p1), .val (.int p2), .val (.int p3), .val (.int p4), .val (.int p5), .val (.int p6), .val (.double (FP.i2d p3)), .second, .val (.double (FP.i2d p4)), .second, .val (.double (FP.i2d p5)), .second, .val (.double (FP.i2d p6)), .second, .val (.int (0 : Int32)), .unset, .unset, .unset] [(.int (0 : Int32))])) _
          refine XS.goto X0.here hx rfl (pc0 := 184) (pc' := 191) rfl (hb hby at_184) (by decide) (by decide) ?_
          show Steps p.tables e below (s₁.setTop (mkF m 191 #[.val (.int p1), .val (.int p2), .val (.int p3), .val (.int p4), .val (.int p5), .val (.int p6), .val (.double (FP.i2d p3)), .second, .val (.double (FP.i2d p4)), .second, .val (.double (FP.i2d p5)), .second, .val (.double (FP.i2d p6)), .second, .val (.int (0 : Int32)), .unset, .unset, .unset] [(.int (0 : Int32))])) _
          refine XS.istore X0.here hx rfl (hb hby at_191) rfl (l' := #[.val (.int p1), .val (.int p2), .val (.int p3), .val (.int p4), .val (.int p5), .val (.int p6), .val (.double (FP.i2d p3)), .second, .val (.double (FP.i2d p4)), .second, .val (.double (FP.i2d p5)), .second, .val (.double (FP.i2d p6)), .second, .val (.int (0 : Int32)), .val (.int (0 : Int32)), .unset, .unset]) rfl ?_
          show Steps p.tables e below (s₁.setTop (mkF m 193 #[.val (.int p1), .val (.int p2), .val (.int p3), .val (.int p4), .val (.int p5), .val (.int p6), .val (.double (FP.i2d p3)), .second, .val (.double (FP.i2d p4)), .second, .val (.double (FP.i2d p5)), .second, .val (.double (FP.i2d p6)), .second, .val (.int (0 : Int32)), .val (.int (0 : Int32)), .unset, .unset] [])) _
          refine XS.iload X0.here hx rfl (hb hby at_193) rfl ?_
          show Steps p.tables e below (s₁.setTop (mkF m 195 #[.val (.int p1), .val (.int p2), .val (.int p3), .val (.int p4), .val (.int p5), .val (.int p6), .val (.double (FP.i2d p3)), .second, .val (.double (FP.i2d p4)), .second, .val (.double (FP.i2d p5)), .second, .val (.double (FP.i2d p6)), .second, .val (.int (0 : Int32)), .val (.int (0 : Int32)), .unset, .unset] [(.int (0 : Int32))])) _
          refine XS.dload X0.here hx rfl (hb hby at_195) rfl ?_
          show Steps p.tables e below (s₁.setTop (mkF m 197 #[.val (.int p1), .val (.int p2), .val (.int p3), .val (.int p4), .val (.int p5), .val (.int p6), .val (.double (FP.i2d p3)), .second, .val (.double (FP.i2d p4)), .second, .val (.double (FP.i2d p5)), .second, .val (.double (FP.i2d p6)), .second, .val (.int (0 : Int32)), .val (.int (0 : Int32)), .unset, .unset] [(.double (FP.i2d p3)), (.int (0 : Int32))])) _
          refine XS.dload X0.here hx rfl (hb hby at_197) rfl ?_
          show Steps p.tables e below (s₁.setTop (mkF m 199 #[.val (.int p1), .val (.int p2), .val (.int p3), .val (.int p4), .val (.int p5), .val (.int p6), .val (.double (FP.i2d p3)), .second, .val (.double (FP.i2d p4)), .second, .val (.double (FP.i2d p5)), .second, .val (.double (FP.i2d p6)), .second, .val (.int (0 : Int32)), .val (.int (0 : Int32)), .unset, .unset] [(.double (FP.i2d p4)), (.double (FP.i2d p3)), (.int (0 : Int32))])) _
          refine XS.dload X0.here hx rfl (hb hby at_199) rfl ?_
          show Steps p.tables e below (s₁.setTop (mkF m 201 #[.val (.int p1), .val (.int p2), .val (.int p3), .val (.int p4), .val (.int p5), .val (.int p6), .val (.double (FP.i2d p3)), .second, .val (.double (FP.i2d p4)), .second, .val (.double (FP.i2d p5)), .second, .val (.double (FP.i2d p6)), .second, .val (.int (0 : Int32)), .val (.int (0 : Int32)), .unset, .unset] [(.double (FP.i2d p5)), (.double (FP.i2d p4)), (.double (FP.i2d p3)), (.int (0 : Int32))])) _
          refine XS.dload X0.here hx rfl (hb hby at_201) rfl ?_
          show Steps p.tables e below (s₁.setTop (mkF m 203 #[.val (.int p1), .val (.int p2), .val (.int p3), .val (.int p4), .val (.int p5), .val (.int p6), .val (.double (FP.i2d p3)), .second, .val (.double (FP.i2d p4)), .second, .val (.double (FP.i2d p5)), .second, .val (.double (FP.i2d p6)), .second, .val (.int (0 : Int32)), .val (.int (0 : Int32)), .unset, .unset] [(.double (FP.i2d p6)), (.double (FP.i2d p5)), (.double (FP.i2d p4)), (.double (FP.i2d p3)), (.int (0 : Int32))])) _
          refine st4 _ ?_
          show Steps p.tables e below (T4.setTop (mkF m 206 #[.val (.int p1), .val (.int p2), .val (.int p3), .val (.int p4), .val (.int p5), .val (.int p6), .val (.double (FP.i2d p3)), .second, .val (.double (FP.i2d p4)), .second, .val (.double (FP.i2d p5)), .second, .val (.double (FP.i2d p6)), .second, .val (.int (0 : Int32)), .val (.int (0 : Int32)), .unset, .unset] [(.ref b_4)])) _
          refine XS.astore X4.here hx rfl (hb hby at_206) rfl rfl (l' := #[.val (.int p1), .val (.int p2), .val (.int p3), .val (.int p4), .val (.int p5), .val (.int p6), .val (.double (FP.i2d p3)), .second, .val (.double (FP.i2d p4)), .second, .val (.double (FP.i2d p5)), .second, .val (.double (FP.i2d p6)), .second, .val (.int (0 : Int32)), .val (.int (0 : Int32)), .val (.ref b_4), .unset]) rfl ?_
          show Steps p.tables e below (T4.setTop (mkF m 208 #[.val (.int p1), .val (.int p2), .val (.int p3), .val (.int p4), .val (.int p5), .val (.int p6), .val (.double (FP.i2d p3)), .second, .val (.double (FP.i2d p4)), .second, .val (.double (FP.i2d p5)), .second, .val (.double (FP.i2d p6)), .second, .val (.int (0 : Int32)), .val (.int (0 : Int32)), .val (.ref b_4), .unset] [])) _
          refine XS.aload X4.here hx rfl (hb hby at_208) rfl rfl ?_
          show Steps p.tables e below (T4.setTop (mkF m 210 #[.val (.int p1), .val (.int p2), .val (.int p3), .val (.int p4), .val (.int p5), .val (.int p6), .val (.double (FP.i2d p3)), .second, .val (.double (FP.i2d p4)), .second, .val (.double (FP.i2d p5)), .second, .val (.double (FP.i2d p6)), .second, .val (.int (0 : Int32)), .val (.int (0 : Int32)), .val (.ref b_4), .unset] [(.ref b_4)])) _
          refine XS.iload X4.here hx rfl (hb hby at_210) rfl ?_
          show Steps p.tables e below (T4.setTop (mkF m 212 #[.val (.int p1), .val (.int p2), .val (.int p3), .val (.int p4), .val (.int p5), .val (.int p6), .val (.double (FP.i2d p3)), .second, .val (.double (FP.i2d p4)), .second, .val (.double (FP.i2d p5)), .second, .val (.double (FP.i2d p6)), .second, .val (.int (0 : Int32)), .val (.int (0 : Int32)), .val (.ref b_4), .unset] [(.int (0 : Int32)), (.ref b_4)])) _
          refine st6 _ ?_
          show Steps p.tables e below (T6.setTop (mkF m 215 #[.val (.int p1), .val (.int p2), .val (.int p3), .val (.int p4), .val (.int p5), .val (.int p6), .val (.double (FP.i2d p3)), .second, .val (.double (FP.i2d p4)), .second, .val (.double (FP.i2d p5)), .second, .val (.double (FP.i2d p6)), .second, .val (.int (0 : Int32)), .val (.int (0 : Int32)), .val (.ref b_4), .unset] [(.ref b_4)])) _
          refine XS.astore X6.here hx rfl (hb hby at_215) rfl rfl (l' := #[.val (.int p1), .val (.int p2), .val (.int p3), .val (.int p4), .val (.int p5), .val (.int p6), .val (.double (FP.i2d p3)), .second, .val (.double (FP.i2d p4)), .second, .val (.double (FP.i2d p5)), .second, .val (.double (FP.i2d p6)), .second, .val (.int (0 : Int32)), .val (.int (0 : Int32)), .val (.ref b_4), .val (.ref b_4)]) rfl ?_
          show Steps p.tables e below (T6.setTop (mkF m 217 #[.val (.int p1), .val (.int p2), .val (.int p3), .val (.int p4), .val (.int p5), .val (.int p6), .val (.double (FP.i2d p3)), .second, .val (.double (FP.i2d p4)), .second, .val (.double (FP.i2d p5)), .second, .val (.double (FP.i2d p6)), .second, .val (.int (0 : Int32)), .val (.int (0 : Int32)), .val (.ref b_4), .val (.ref b_4)] [])) _
          refine XS.aload X6.here hx rfl (hb hby at_217) rfl rfl ?_
          show Steps p.tables e below (T6.setTop (mkF m 219 #[.val (.int p1), .val (.int p2), .val (.int p3), .val (.int p4), .val (.int p5), .val (.int p6), .val (.double (FP.i2d p3)), .second, .val (.double (FP.i2d p4)), .second, .val (.double (FP.i2d p5)), .second, .val (.double (FP.i2d p6)), .second, .val (.int (0 : Int32)), .val (.int (0 : Int32)), .val (.ref b_4), .val (.ref b_4)] [(.ref b_4)])) _
          refine XS.aload X6.here hx rfl (hb hby at_219) rfl rfl ?_
          show Steps p.tables e below (T6.setTop (mkF m 221 #[.val (.int p1), .val (.int p2), .val (.int p3), .val (.int p4), .val (.int p5), .val (.int p6), .val (.double (FP.i2d p3)), .second, .val (.double (FP.i2d p4)), .second, .val (.double (FP.i2d p5)), .second, .val (.double (FP.i2d p6)), .second, .val (.int (0 : Int32)), .val (.int (0 : Int32)), .val (.ref b_4), .val (.ref b_4)] [(.ref b_4), (.ref b_4)])) _
          refine Jvm.RoadKit.acmp (g := (mkF m 221 #[.val (.int p1), .val (.int p2), .val (.int p3), .val (.int p4), .val (.int p5), .val (.int p6), .val (.double (FP.i2d p3)), .second, .val (.double (FP.i2d p4)), .second, .val (.double (FP.i2d p5)), .second, .val (.double (FP.i2d p6)), .second, .val (.int (0 : Int32)), .val (.int (0 : Int32)), .val (.ref b_4), .val (.ref b_4)] [(.ref b_4), (.ref b_4)])) X6 hx rfl rfl rfl (pc0 := 221) (pc' := 226) (same := true) rfl (hb hby at_221) rfl (decide_eq_true rfl) (by decide) (by decide) ?_
          show Steps p.tables e below (T6.setTop (mkF m 226 #[.val (.int p1), .val (.int p2), .val (.int p3), .val (.int p4), .val (.int p5), .val (.int p6), .val (.double (FP.i2d p3)), .second, .val (.double (FP.i2d p4)), .second, .val (.double (FP.i2d p5)), .second, .val (.double (FP.i2d p6)), .second, .val (.int (0 : Int32)), .val (.int (0 : Int32)), .val (.ref b_4), .val (.ref b_4)] [])) _
          refine XS.aload X6.here hx rfl (hb hby at_226) rfl rfl ?_
          show Steps p.tables e below (T6.setTop (mkF m 228 #[.val (.int p1), .val (.int p2), .val (.int p3), .val (.int p4), .val (.int p5), .val (.int p6), .val (.double (FP.i2d p3)), .second, .val (.double (FP.i2d p4)), .second, .val (.double (FP.i2d p5)), .second, .val (.double (FP.i2d p6)), .second, .val (.int (0 : Int32)), .val (.int (0 : Int32)), .val (.ref b_4), .val (.ref b_4)] [(.ref b_4)])) _
          refine X6.arraylength hx (cell := cl7) (by rw [e6]; exact Ar7.1) (State.isArrayOf_alike hZ.alike Ar7.2.1) (g := (mkF m 228 #[.val (.int p1), .val (.int p2), .val (.int p3), .val (.int p4), .val (.int p5), .val (.int p6), .val (.double (FP.i2d p3)), .second, .val (.double (FP.i2d p4)), .second, .val (.double (FP.i2d p5)), .second, .val (.double (FP.i2d p6)), .second, .val (.int (0 : Int32)), .val (.int (0 : Int32)), .val (.ref b_4), .val (.ref b_4)] [(.ref b_4)])) rfl rfl (hb hby at_228) _ ?_
          rw [len_of S7 M7]
          show Steps p.tables e below (T6.setTop (mkF m 229 #[.val (.int p1), .val (.int p2), .val (.int p3), .val (.int p4), .val (.int p5), .val (.int p6), .val (.double (FP.i2d p3)), .second, .val (.double (FP.i2d p4)), .second, .val (.double (FP.i2d p5)), .second, .val (.double (FP.i2d p6)), .second, .val (.int (0 : Int32)), .val (.int (0 : Int32)), .val (.ref b_4), .val (.ref b_4)] [(.int (0 : Int32))])) _
          refine XS.iload X6.here hx rfl (hb hby at_229) rfl ?_
          show Steps p.tables e below (T6.setTop (mkF m 231 #[.val (.int p1), .val (.int p2), .val (.int p3), .val (.int p4), .val (.int p5), .val (.int p6), .val (.double (FP.i2d p3)), .second, .val (.double (FP.i2d p4)), .second, .val (.double (FP.i2d p5)), .second, .val (.double (FP.i2d p6)), .second, .val (.int (0 : Int32)), .val (.int (0 : Int32)), .val (.ref b_4), .val (.ref b_4)] [(.int (0 : Int32)), (.int (0 : Int32))])) _
          refine XS.icmpYes X6.here hx rfl (pc0 := 231) (pc' := 236) rfl (hb hby at_231) rfl (teq ((by decide) : (0 : Int32) = (0 : Int32))).1 (by decide) (by decide) ?_
          show Steps p.tables e below (T6.setTop (mkF m 236 #[.val (.int p1), .val (.int p2), .val (.int p3), .val (.int p4), .val (.int p5), .val (.int p6), .val (.double (FP.i2d p3)), .second, .val (.double (FP.i2d p4)), .second, .val (.double (FP.i2d p5)), .second, .val (.double (FP.i2d p6)), .second, .val (.int (0 : Int32)), .val (.int (0 : Int32)), .val (.ref b_4), .val (.ref b_4)] [])) _
          refine XS.iload X6.here hx rfl (hb hby at_236) rfl ?_
          show Steps p.tables e below (T6.setTop (mkF m 238 #[.val (.int p1), .val (.int p2), .val (.int p3), .val (.int p4), .val (.int p5), .val (.int p6), .val (.double (FP.i2d p3)), .second, .val (.double (FP.i2d p4)), .second, .val (.double (FP.i2d p5)), .second, .val (.double (FP.i2d p6)), .second, .val (.int (0 : Int32)), .val (.int (0 : Int32)), .val (.ref b_4), .val (.ref b_4)] [(.int (0 : Int32))])) _
          refine XS.ifYes X6.here hx rfl (pc0 := 238) (pc' := 253) rfl (hb hby at_238) rfl ((if0 _ _).trans (flt ((by decide) : ¬ ((0 : Int32) < (0 : Int32)))).2.2.2) (by decide) (by decide) ?_
          show Steps p.tables e below (T6.setTop (mkF m 253 #[.val (.int p1), .val (.int p2), .val (.int p3), .val (.int p4), .val (.int p5), .val (.int p6), .val (.double (FP.i2d p3)), .second, .val (.double (FP.i2d p4)), .second, .val (.double (FP.i2d p5)), .second, .val (.double (FP.i2d p6)), .second, .val (.int (0 : Int32)), .val (.int (0 : Int32)), .val (.ref b_4), .val (.ref b_4)] [])) _
          refine XS.iload X6.here hx rfl (hb hby at_253) rfl ?_
          show Steps p.tables e below (T6.setTop (mkF m 255 #[.val (.int p1), .val (.int p2), .val (.int p3), .val (.int p4), .val (.int p5), .val (.int p6), .val (.double (FP.i2d p3)), .second, .val (.double (FP.i2d p4)), .second, .val (.double (FP.i2d p5)), .second, .val (.double (FP.i2d p6)), .second, .val (.int (0 : Int32)), .val (.int (0 : Int32)), .val (.ref b_4), .val (.ref b_4)] [(.int (0 : Int32))])) _
          refine XS.iconst X6.here hx rfl (hb hby at_255) ?_
          show Steps p.tables e below (T6.setTop (mkF m 256 #[.val (.int p1), .val (.int p2), .val (.int p3), .val (.int p4), .val (.int p5), .val (.int p6), .val (.double (FP.i2d p3)), .second, .val (.double (FP.i2d p4)), .second, .val (.double (FP.i2d p5)), .second, .val (.double (FP.i2d p6)), .second, .val (.int (0 : Int32)), .val (.int (0 : Int32)), .val (.ref b_4), .val (.ref b_4)] [(.int (1 : Int32)), (.int (0 : Int32))])) _
          refine XS.icmpYes X6.here hx rfl (pc0 := 256) (pc' := 271) rfl (hb hby at_256) rfl (flt ((by decide) : ¬ ((1 : Int32) < (0 : Int32)))).2.2.2 (by decide) (by decide) ?_
          show Steps p.tables e below (T6.setTop (mkF m 271 #[.val (.int p1), .val (.int p2), .val (.int p3), .val (.int p4), .val (.int p5), .val (.int p6), .val (.double (FP.i2d p3)), .second, .val (.double (FP.i2d p4)), .second, .val (.double (FP.i2d p5)), .second, .val (.double (FP.i2d p6)), .second, .val (.int (0 : Int32)), .val (.int (0 : Int32)), .val (.ref b_4), .val (.ref b_4)] [])) _
          refine XS.iload X6.here hx rfl (hb hby at_271) rfl ?_
          show Steps p.tables e below (T6.setTop (mkF m 273 #[.val (.int p1), .val (.int p2), .val (.int p3), .val (.int p4), .val (.int p5), .val (.int p6), .val (.double (FP.i2d p3)), .second, .val (.double (FP.i2d p4)), .second, .val (.double (FP.i2d p5)), .second, .val (.double (FP.i2d p6)), .second, .val (.int (0 : Int32)), .val (.int (0 : Int32)), .val (.ref b_4), .val (.ref b_4)] [(.int (0 : Int32))])) _
          refine XS.iconst X6.here hx rfl (hb hby at_273) ?_
          show Steps p.tables e below (T6.setTop (mkF m 274 #[.val (.int p1), .val (.int p2), .val (.int p3), .val (.int p4), .val (.int p5), .val (.int p6), .val (.double (FP.i2d p3)), .second, .val (.double (FP.i2d p4)), .second, .val (.double (FP.i2d p5)), .second, .val (.double (FP.i2d p6)), .second, .val (.int (0 : Int32)), .val (.int (0 : Int32)), .val (.ref b_4), .val (.ref b_4)] [(.int (2 : Int32)), (.int (0 : Int32))])) _
          refine XS.icmpYes X6.here hx rfl (pc0 := 274) (pc' := 289) rfl (hb hby at_274) rfl (flt ((by decide) : ¬ ((2 : Int32) < (0 : Int32)))).2.2.2 (by decide) (by decide) ?_
          show Steps p.tables e below (T6.setTop (mkF m 289 #[.val (.int p1), .val (.int p2), .val (.int p3), .val (.int p4), .val (.int p5), .val (.int p6), .val (.double (FP.i2d p3)), .second, .val (.double (FP.i2d p4)), .second, .val (.double (FP.i2d p5)), .second, .val (.double (FP.i2d p6)), .second, .val (.int (0 : Int32)), .val (.int (0 : Int32)), .val (.ref b_4), .val (.ref b_4)] [])) _
          refine XS.iload X6.here hx rfl (hb hby at_289) rfl ?_
          show Steps p.tables e below (T6.setTop (mkF m 291 #[.val (.int p1), .val (.int p2), .val (.int p3), .val (.int p4), .val (.int p5), .val (.int p6), .val (.double (FP.i2d p3)), .second, .val (.double (FP.i2d p4)), .second, .val (.double (FP.i2d p5)), .second, .val (.double (FP.i2d p6)), .second, .val (.int (0 : Int32)), .val (.int (0 : Int32)), .val (.ref b_4), .val (.ref b_4)] [(.int (0 : Int32))])) _
          refine XS.iconst X6.here hx rfl (hb hby at_291) ?_
          show Steps p.tables e below (T6.setTop (mkF m 292 #[.val (.int p1), .val (.int p2), .val (.int p3), .val (.int p4), .val (.int p5), .val (.int p6), .val (.double (FP.i2d p3)), .second, .val (.double (FP.i2d p4)), .second, .val (.double (FP.i2d p5)), .second, .val (.double (FP.i2d p6)), .second, .val (.int (0 : Int32)), .val (.int (0 : Int32)), .val (.ref b_4), .val (.ref b_4)] [(.int (3 : Int32)), (.int (0 : Int32))])) _
          refine XS.icmpYes X6.here hx rfl (pc0 := 292) (pc' := 307) rfl (hb hby at_292) rfl (flt ((by decide) : ¬ ((3 : Int32) < (0 : Int32)))).2.2.2 (by decide) (by decide) ?_
          show Steps p.tables e below (T6.setTop (mkF m 307 #[.val (.int p1), .val (.int p2), .val (.int p3), .val (.int p4), .val (.int p5), .val (.int p6), .val (.double (FP.i2d p3)), .second, .val (.double (FP.i2d p4)), .second, .val (.double (FP.i2d p5)), .second, .val (.double (FP.i2d p6)), .second, .val (.int (0 : Int32)), .val (.int (0 : Int32)), .val (.ref b_4), .val (.ref b_4)] [])) _
          refine XS.iconst X6.here hx rfl (hb hby at_307) ?_
          exact kt)
      obtain ⟨fs, hr, hrun, hended, hW, hsame⟩ := X6.leave (v := some (.int (1 : Int32))) (fun h => by rw [Bd.returns] at h; cases h)
      refine ⟨_, _, pre8 _ ?_, hrun, hended, _, _, rfl, ?_, ⟨_, rfl⟩, hW, hsame.mono (by decide) (by decide)⟩
      · show Steps p.tables e below (T6.setTop (mkF m 308 #[.val (.int p1), .val (.int p2), .val (.int p3), .val (.int p4), .val (.int p5), .val (.int p6), .val (.double (FP.i2d p3)), .second, .val (.double (FP.i2d p4)), .second, .val (.double (FP.i2d p5)), .second, .val (.double (FP.i2d p6)), .second, .val (.int (0 : Int32)), .val (.int (0 : Int32)), .val (.ref b_4), .val (.ref b_4)] [(.int (1 : Int32))])) _
        exact retN X6 hx (t := .boolean) Bd.returns (by simp) (hb hby at_308) hr
      · show Q0 Z p1 p2 p3 p4 p5 p6 h0 n0 _ T6.heap _
        rw [e6]
        exact ⟨rfl, N6⟩
    · skip
      obtain ⟨_, _, ⟨T9, L9, kk9, nn9⟩, -, X9, ⟨Lc9, hQ9, l9, y9, z9⟩, st9⟩ := Jvm.LawKit.callS X0 hx (y := (⟨"com/example/manyfront/manyfront/cli/ReferencePointFitPinLaw", "make", "(IDDDD)[D"⟩ : MethodName)) hown (mvT hZ (hw _ (List.mem_of_getElem? (i := 0) rfl))) (mvT hZ (hw _ (List.mem_of_getElem? (i := 1) rfl))) (mvT hZ (hw _ (List.mem_of_getElem? (i := 2) rfl))) (mvT hZ (hw _ (List.mem_of_getElem? (i := 3) rfl))) (by decide) (backOf (W := 0) (rmmake2 l Z a0 hw [] (FP.i2d p3) (FP.i2d p4) (FP.i2d p5) (FP.i2d p6) h0 n0 Z0 ) hZ (hw _ (List.mem_of_getElem? (i := 3) rfl)) (hw _ (List.mem_of_getElem? (i := 2) rfl)) (by decide) (by decide)) (g := (mkF m 203 #[.val (.int p1), .val (.int p2), .val (.int p3), .val (.int p4), .val (.int p5), .val (.int p6), .val (.double (FP.i2d p3)), .second, .val (.double (FP.i2d p4)), .second, .val (.double (FP.i2d p5)), .second, .val (.double (FP.i2d p6)), .second, .val (.int (1 : Int32)), .val (.int (2 : Int32)), .unset, .unset] [(.double (FP.i2d p6)), (.double (FP.i2d p5)), (.double (FP.i2d p4)), (.double (FP.i2d p3)), (.int (2 : Int32))])) rfl (by rw [hml]; rfl) (argsL := [(.int (2 : Int32)), (.double (FP.i2d p3)), (.double (FP.i2d p4)), (.double (FP.i2d p5)), (.double (FP.i2d p6))]) (rest := []) (lenOf pd__28IDDDD_29_5bD rfl) rfl (by show 2 * 0 + _ ≤ _; exact Nat.le_of_eq rfl) (hb hby at_203) (fun _ _ => ⟨rfl, e0, (by decide : 0 + 1 ≤ _), (by decide : 0 + 2 ≤ _)⟩)
      dsimp only [Pt.U, Pt.locs, Pt.cells, Pt.slots] at X9 l9 y9 z9 st9 hQ9
      subst l9 y9 z9
      obtain ⟨b_9, kb_9, rfl, N9q, K9, x9_0, x9_1⟩ := hQ9
      have N9 := Fr.app N0 N9q
      have g_b_9 : n0 ≤ b_9 := Nat.le_trans Z0 x9_0
      have z10 : n0 ≤ T9.heap.size := Nat.le_trans Z0 K9.1
      obtain ⟨_, _, ⟨T11, L11, kk11, nn11⟩, -, X11, ⟨Lc11, hQ11, l11, y11, z11⟩, st11⟩ := Jvm.LawKit.callS X9 hx (y := (⟨"com/example/manyfront/manyfront/cli/ReferencePoint", "fit", "([DI)[D"⟩ : MethodName)) hown (mvT hZ (hw _ (List.mem_of_getElem? (i := 5) rfl))) (mvT hZ (hw _ (List.mem_of_getElem? (i := 6) rfl))) (mvT hZ (hw _ (List.mem_of_getElem? (i := 7) rfl))) (mvT hZ (hw _ (List.mem_of_getElem? (i := 8) rfl))) (by decide) (backOf (W := 0) (rmfitS2 l Z a0 hw [] b_9 (FP.i2d p3) (FP.i2d p4) kb_9 T9.heap n0 z10 x9_1) hZ (hw _ (List.mem_of_getElem? (i := 8) rfl)) (hw _ (List.mem_of_getElem? (i := 7) rfl)) (by decide) (by decide)) (g := (mkF m 212 #[.val (.int p1), .val (.int p2), .val (.int p3), .val (.int p4), .val (.int p5), .val (.int p6), .val (.double (FP.i2d p3)), .second, .val (.double (FP.i2d p4)), .second, .val (.double (FP.i2d p5)), .second, .val (.double (FP.i2d p6)), .second, .val (.int (1 : Int32)), .val (.int (2 : Int32)), .val (.ref b_9), .unset] [(.int (2 : Int32)), (.ref b_9)])) rfl (by rw [hml]; rfl) (argsL := [(.ref b_9), (.int (2 : Int32))]) (rest := []) (lenOf pd__28_5bDI_29_5bD rfl) rfl (by show 2 * 0 + _ ≤ _; exact Nat.le_of_eq rfl) (hb hby at_212) (fun _ _ => ⟨rfl, rfl, (by decide : 1 + 0 ≤ _), (by decide : 2 + 0 ≤ _)⟩)
      dsimp only [Pt.U, Pt.locs, Pt.cells, Pt.slots] at X11 l11 y11 z11 st11 hQ11
      subst l11 y11 z11
      obtain ⟨rfl, N11q, e11⟩ := hQ11
      have N11 := Fr.app N9 N11q
      obtain ⟨cl12, Ar12, Q12, S12, M12, H12, G12⟩ := id x9_1
      obtain ⟨cl13, Ar13, Q13, S13, M13, H13, G13⟩ := id x9_1
      have in14 : ¬ ((0 : Int32) < 0 ∨ cl13.slots.size ≤ ((0 : Int32)).toNatClampNeg) := inb_of S13 ⟨by decide, by decide⟩
      have at15 : cl13.slots[((0 : Int32)).toNatClampNeg]? = some (.double (FP.i2d p3)) := H13 0 (by rw [S13]; decide)
      obtain ⟨cl16, Ar16, Q16, S16, M16, H16, G16⟩ := id x9_1
      have in17 : ¬ ((1 : Int32) < 0 ∨ cl16.slots.size ≤ ((1 : Int32)).toNatClampNeg) := inb_of S16 ⟨by decide, by decide⟩
      have at18 : cl16.slots[((1 : Int32)).toNatClampNeg]? = some (.double (FP.i2d p4)) := H16 1 (by rw [S16]; decide)
      have pre19 : ∀ t, Steps p.tables e below (T11.setTop (mkF m 308 #[.val (.int p1), .val (.int p2), .val (.int p3), .val (.int p4), .val (.int p5), .val (.int p6), .val (.double (FP.i2d p3)), .second, .val (.double (FP.i2d p4)), .second, .val (.double (FP.i2d p5)), .second, .val (.double (FP.i2d p6)), .second, .val (.int (1 : Int32)), .val (.int (2 : Int32)), .val (.ref b_9), .val (.ref b_9)] [(.int (1 : Int32))])) t → Steps p.tables e below (s₁.setTop (entryFrame m #[(.int p1), (.int p2), (.int p3), (.int p4), (.int p5), (.int p6)] maxLocals)) t := fun t kt => pre3 t (by
          show Steps p.tables e below (s₁.setTop (mkF m 173 #[.val (.int p1), .val (.int p2), .val (.int p3), .val (.int p4), .val (.int p5), .val (.int p6), .val (.double (FP.i2d p3)), .second, .val (.double (FP.i2d p4)), .second, .val (.double (FP.i2d p5)), .second, .val (.double (FP.i2d p6)), .second, .unset, .unset, .unset, .unset] [])) _
          refine XS.iloadN X0.here hx rfl (hb hby at_173) rfl ?_
          show Steps p.tables e below (s₁.setTop (mkF m 174 #[.val (.int p1), .val (.int p2), .val (.int p3), .val (.int p4), .val (.int p5), .val (.int p6), .val (.double (FP.i2d p3)), .second, .val (.double (FP.i2d p4)), .second, .val (.double (FP.i2d p5)), .second, .val (.double (FP.i2d p6)), .second, .unset, .unset, .unset, .unset] [(.int p2)])) _
          refine XS.iconst X0.here hx rfl (hb hby at_174) ?_
          show Steps p.tables e below (s₁.setTop (mkF m 175 #[.val (.int p1), .val (.int p2), .val (.int p3), .val (.int p4), .val (.int p5), .val (.int p6), .val (.double (FP.i2d p3)), .second, .val (.double (FP.i2d p4)), .second, .val (.double (FP.i2d p5)), .second, .val (.double (FP.i2d p6)), .second, .unset, .unset, .unset, .unset] [(.int (3 : Int32)), (.int p2)])) _
          refine XS.iand X0.here hx rfl (hb hby at_175) rfl ?_
          show Steps p.tables e below (s₁.setTop (mkF m 176 #[.val (.int p1), .val (.int p2), .val (.int p3), .val (.int p4), .val (.int p5), .val (.int p6), .val (.double (FP.i2d p3)), .second, .val (.double (FP.i2d p4)), .second, .val (.double (FP.i2d p5)), .second, .val (.double (FP.i2d p6)), .second, .unset, .unset, .unset, .unset] [(.int (p2 &&& (3 : Int32)))])) _
          rw [hk]
          show Steps p.tables e below (s₁.setTop (mkF m 176 #[.val (.int p1), .val (.int p2), .val (.int p3), .val (.int p4), .val (.int p5), .val (.int p6), .val (.double (FP.i2d p3)), .second, .val (.double (FP.i2d p4)), .second, .val (.double (FP.i2d p5)), .second, .val (.double (FP.i2d p6)), .second, .unset, .unset, .unset, .unset] [(.int (1 : Int32))])) _
          refine XS.istore X0.here hx rfl (hb hby at_176) rfl (l' := #[.val (.int p1), .val (.int p2), .val (.int p3), .val (.int p4), .val (.int p5), .val (.int p6), .val (.double (FP.i2d p3)), .second, .val (.double (FP.i2d p4)), .second, .val (.double (FP.i2d p5)), .second, .val (.double (FP.i2d p6)), .second, .val (.int (1 : Int32)), .unset, .unset, .unset]) rfl ?_
          show Steps p.tables e below (s₁.setTop (mkF m 178 #[.val (.int p1), .val (.int p2), .val (.int p3), .val (.int p4), .val (.int p5), .val (.int p6), .val (.double (FP.i2d p3)), .second, .val (.double (FP.i2d p4)), .second, .val (.double (FP.i2d p5)), .second, .val (.double (FP.i2d p6)), .second, .val (.int (1 : Int32)), .unset, .unset, .unset] [])) _
          refine XS.iload X0.here hx rfl (hb hby at_178) rfl ?_
          show Steps p.tables e below (s₁.setTop (mkF m 180 #[.val (.int p1), .val (.int p2), .val (.int p3), .val (.int p4), .val (.int p5), .val (.int p6), .val (.double (FP.i2d p3)), .second, .val (.double (FP.i2d p4)), .second, .val (.double (FP.i2d p5)), .second, .val (.double (FP.i2d p6)), .second, .val (.int (1 : Int32)), .unset, .unset, .unset] [(.int (1 : Int32))])) _
          refine XS.ifYes X0.here hx rfl (pc0 := 180) (pc' := 187) rfl (hb hby at_180) rfl ((if0 _ _).trans (feq ((by decide) : ¬ ((1 : Int32) = (0 : Int32)))).2) (by decide) (by decide) ?_
          show Steps p.tables e below (s₁.setTop (mkF m 187 #[.val (.int p1), .val (.int p2), .val (.int p3), .val (.int p4), .val (.int p5), .val (.int p6), .val (.double (FP.i2d p3)), .second, .val (.double (FP.i2d p4)), .second, .val (.double (FP.i2d p5)), .second, .val (.double (FP.i2d p6)), .second, .val (.int (1 : Int32)), .unset, .unset, .unset] [])) _
          refine XS.iload X0.here hx rfl (hb hby at_187) rfl ?_
          show Steps p.tables e below (s₁.setTop (mkF m 189 #[.val (.int p1), .val (.int p2), .val (.int p3), .val (.int p4), .val (.int p5), .val (.int p6), .val (.double (FP.i2d p3)), .second, .val (.double (FP.i2d p4)), .second, .val (.double (FP.i2d p5)), .second, .val (.double (FP.i2d p6)), .second, .val (.int (1 : Int32)), .unset, .unset, .unset] [(.int (1 : Int32))])) _
          refine XS.iconst X0.here hx rfl (hb hby at_189) ?_
          show Steps p.tables e below (s₁.setTop (mkF m 190 #[.val (.int p1), .val (.int p2), .val (.int p3), .val (.int p4), .val (.int p5), .val (.int p6), .val (.double (FP.i2d p3)), .second, .val (.double (FP.i2d p4)), .second, .val (.double (FP.i2d p5)), .second, .val (.double (FP.i2d p6)), .second, .val (.int (1 : Int32)), .unset, .unset, .unset] [(.int (1 : Int32)), (.int (1 : Int32))])) _
          refine XS.iadd X0.here hx rfl (hb hby at_190) rfl ?_
          show Steps p.tables e below (s₁.setTop (mkF m 191 #[.val (.int p1), .val (.int p2), .val (.int p3), .val (.int p4), .val (.int p5), .val (.int p6), .val (.double (FP.i2d p3)), .second, .val (.double (FP.i2d p4)), .second, .val (.double (FP.i2d p5)), .second, .val (.double (FP.i2d p6)), .second, .val (.int (1 : Int32)), .unset, .unset, .unset] [(.int (2 : Int32))])) _
          refine XS.istore X0.here hx rfl (hb hby at_191) rfl (l' := #[.val (.int p1), .val (.int p2), .val (.int p3), .val (.int p4), .val (.int p5), .val (.int p6), .val (.double (FP.i2d p3)), .second, .val (.double (FP.i2d p4)), .second, .val (.double (FP.i2d p5)), .second, .val (.double (FP.i2d p6)), .second, .val (.int (1 : Int32)), .val (.int (2 : Int32)), .unset, .unset]) rfl ?_
          show Steps p.tables e below (s₁.setTop (mkF m 193 #[.val (.int p1), .val (.int p2), .val (.int p3), .val (.int p4), .val (.int p5), .val (.int p6), .val (.double (FP.i2d p3)), .second, .val (.double (FP.i2d p4)), .second, .val (.double (FP.i2d p5)), .second, .val (.double (FP.i2d p6)), .second, .val (.int (1 : Int32)), .val (.int (2 : Int32)), .unset, .unset] [])) _
          refine XS.iload X0.here hx rfl (hb hby at_193) rfl ?_
          show Steps p.tables e below (s₁.setTop (mkF m 195 #[.val (.int p1), .val (.int p2), .val (.int p3), .val (.int p4), .val (.int p5), .val (.int p6), .val (.double (FP.i2d p3)), .second, .val (.double (FP.i2d p4)), .second, .val (.double (FP.i2d p5)), .second, .val (.double (FP.i2d p6)), .second, .val (.int (1 : Int32)), .val (.int (2 : Int32)), .unset, .unset] [(.int (2 : Int32))])) _
          refine XS.dload X0.here hx rfl (hb hby at_195) rfl ?_
          show Steps p.tables e below (s₁.setTop (mkF m 197 #[.val (.int p1), .val (.int p2), .val (.int p3), .val (.int p4), .val (.int p5), .val (.int p6), .val (.double (FP.i2d p3)), .second, .val (.double (FP.i2d p4)), .second, .val (.double (FP.i2d p5)), .second, .val (.double (FP.i2d p6)), .second, .val (.int (1 : Int32)), .val (.int (2 : Int32)), .unset, .unset] [(.double (FP.i2d p3)), (.int (2 : Int32))])) _
          refine XS.dload X0.here hx rfl (hb hby at_197) rfl ?_
          show Steps p.tables e below (s₁.setTop (mkF m 199 #[.val (.int p1), .val (.int p2), .val (.int p3), .val (.int p4), .val (.int p5), .val (.int p6), .val (.double (FP.i2d p3)), .second, .val (.double (FP.i2d p4)), .second, .val (.double (FP.i2d p5)), .second, .val (.double (FP.i2d p6)), .second, .val (.int (1 : Int32)), .val (.int (2 : Int32)), .unset, .unset] [(.double (FP.i2d p4)), (.double (FP.i2d p3)), (.int (2 : Int32))])) _
          refine XS.dload X0.here hx rfl (hb hby at_199) rfl ?_
          show Steps p.tables e below (s₁.setTop (mkF m 201 #[.val (.int p1), .val (.int p2), .val (.int p3), .val (.int p4), .val (.int p5), .val (.int p6), .val (.double (FP.i2d p3)), .second, .val (.double (FP.i2d p4)), .second, .val (.double (FP.i2d p5)), .second, .val (.double (FP.i2d p6)), .second, .val (.int (1 : Int32)), .val (.int (2 : Int32)), .unset, .unset] [(.double (FP.i2d p5)), (.double (FP.i2d p4)), (.double (FP.i2d p3)), (.int (2 : Int32))])) _
          refine XS.dload X0.here hx rfl (hb hby at_201) rfl ?_
          show Steps p.tables e below (s₁.setTop (mkF m 203 #[.val (.int p1), .val (.int p2), .val (.int p3), .val (.int p4), .val (.int p5), .val (.int p6), .val (.double (FP.i2d p3)), .second, .val (.double (FP.i2d p4)), .second, .val (.double (FP.i2d p5)), .second, .val (.double (FP.i2d p6)), .second, .val (.int (1 : Int32)), .val (.int (2 : Int32)), .unset, .unset] [(.double (FP.i2d p6)), (.double (FP.i2d p5)), (.double (FP.i2d p4)), (.double (FP.i2d p3)), (.int (2 : Int32))])) _
          refine st9 _ ?_
          show Steps p.tables e below (T9.setTop (mkF m 206 #[.val (.int p1), .val (.int p2), .val (.int p3), .val (.int p4), .val (.int p5), .val (.int p6), .val (.double (FP.i2d p3)), .second, .val (.double (FP.i2d p4)), .second, .val (.double (FP.i2d p5)), .second, .val (.double (FP.i2d p6)), .second, .val (.int (1 : Int32)), .val (.int (2 : Int32)), .unset, .unset] [(.ref b_9)])) _
          refine XS.astore X9.here hx rfl (hb hby at_206) rfl rfl (l' := #[.val (.int p1), .val (.int p2), .val (.int p3), .val (.int p4), .val (.int p5), .val (.int p6), .val (.double (FP.i2d p3)), .second, .val (.double (FP.i2d p4)), .second, .val (.double (FP.i2d p5)), .second, .val (.double (FP.i2d p6)), .second, .val (.int (1 : Int32)), .val (.int (2 : Int32)), .val (.ref b_9), .unset]) rfl ?_
          show Steps p.tables e below (T9.setTop (mkF m 208 #[.val (.int p1), .val (.int p2), .val (.int p3), .val (.int p4), .val (.int p5), .val (.int p6), .val (.double (FP.i2d p3)), .second, .val (.double (FP.i2d p4)), .second, .val (.double (FP.i2d p5)), .second, .val (.double (FP.i2d p6)), .second, .val (.int (1 : Int32)), .val (.int (2 : Int32)), .val (.ref b_9), .unset] [])) _
          refine XS.aload X9.here hx rfl (hb hby at_208) rfl rfl ?_
          show Steps p.tables e below (T9.setTop (mkF m 210 #[.val (.int p1), .val (.int p2), .val (.int p3), .val (.int p4), .val (.int p5), .val (.int p6), .val (.double (FP.i2d p3)), .second, .val (.double (FP.i2d p4)), .second, .val (.double (FP.i2d p5)), .second, .val (.double (FP.i2d p6)), .second, .val (.int (1 : Int32)), .val (.int (2 : Int32)), .val (.ref b_9), .unset] [(.ref b_9)])) _
          refine XS.iload X9.here hx rfl (hb hby at_210) rfl ?_
          show Steps p.tables e below (T9.setTop (mkF m 212 #[.val (.int p1), .val (.int p2), .val (.int p3), .val (.int p4), .val (.int p5), .val (.int p6), .val (.double (FP.i2d p3)), .second, .val (.double (FP.i2d p4)), .second, .val (.double (FP.i2d p5)), .second, .val (.double (FP.i2d p6)), .second, .val (.int (1 : Int32)), .val (.int (2 : Int32)), .val (.ref b_9), .unset] [(.int (2 : Int32)), (.ref b_9)])) _
          refine st11 _ ?_
          show Steps p.tables e below (T11.setTop (mkF m 215 #[.val (.int p1), .val (.int p2), .val (.int p3), .val (.int p4), .val (.int p5), .val (.int p6), .val (.double (FP.i2d p3)), .second, .val (.double (FP.i2d p4)), .second, .val (.double (FP.i2d p5)), .second, .val (.double (FP.i2d p6)), .second, .val (.int (1 : Int32)), .val (.int (2 : Int32)), .val (.ref b_9), .unset] [(.ref b_9)])) _
          refine XS.astore X11.here hx rfl (hb hby at_215) rfl rfl (l' := #[.val (.int p1), .val (.int p2), .val (.int p3), .val (.int p4), .val (.int p5), .val (.int p6), .val (.double (FP.i2d p3)), .second, .val (.double (FP.i2d p4)), .second, .val (.double (FP.i2d p5)), .second, .val (.double (FP.i2d p6)), .second, .val (.int (1 : Int32)), .val (.int (2 : Int32)), .val (.ref b_9), .val (.ref b_9)]) rfl ?_
          show Steps p.tables e below (T11.setTop (mkF m 217 #[.val (.int p1), .val (.int p2), .val (.int p3), .val (.int p4), .val (.int p5), .val (.int p6), .val (.double (FP.i2d p3)), .second, .val (.double (FP.i2d p4)), .second, .val (.double (FP.i2d p5)), .second, .val (.double (FP.i2d p6)), .second, .val (.int (1 : Int32)), .val (.int (2 : Int32)), .val (.ref b_9), .val (.ref b_9)] [])) _
          refine XS.aload X11.here hx rfl (hb hby at_217) rfl rfl ?_
          show Steps p.tables e below (T11.setTop (mkF m 219 #[.val (.int p1), .val (.int p2), .val (.int p3), .val (.int p4), .val (.int p5), .val (.int p6), .val (.double (FP.i2d p3)), .second, .val (.double (FP.i2d p4)), .second, .val (.double (FP.i2d p5)), .second, .val (.double (FP.i2d p6)), .second, .val (.int (1 : Int32)), .val (.int (2 : Int32)), .val (.ref b_9), .val (.ref b_9)] [(.ref b_9)])) _
          refine XS.aload X11.here hx rfl (hb hby at_219) rfl rfl ?_
          show Steps p.tables e below (T11.setTop (mkF m 221 #[.val (.int p1), .val (.int p2), .val (.int p3), .val (.int p4), .val (.int p5), .val (.int p6), .val (.double (FP.i2d p3)), .second, .val (.double (FP.i2d p4)), .second, .val (.double (FP.i2d p5)), .second, .val (.double (FP.i2d p6)), .second, .val (.int (1 : Int32)), .val (.int (2 : Int32)), .val (.ref b_9), .val (.ref b_9)] [(.ref b_9), (.ref b_9)])) _
          refine Jvm.RoadKit.acmp (g := (mkF m 221 #[.val (.int p1), .val (.int p2), .val (.int p3), .val (.int p4), .val (.int p5), .val (.int p6), .val (.double (FP.i2d p3)), .second, .val (.double (FP.i2d p4)), .second, .val (.double (FP.i2d p5)), .second, .val (.double (FP.i2d p6)), .second, .val (.int (1 : Int32)), .val (.int (2 : Int32)), .val (.ref b_9), .val (.ref b_9)] [(.ref b_9), (.ref b_9)])) X11 hx rfl rfl rfl (pc0 := 221) (pc' := 226) (same := true) rfl (hb hby at_221) rfl (decide_eq_true rfl) (by decide) (by decide) ?_
          show Steps p.tables e below (T11.setTop (mkF m 226 #[.val (.int p1), .val (.int p2), .val (.int p3), .val (.int p4), .val (.int p5), .val (.int p6), .val (.double (FP.i2d p3)), .second, .val (.double (FP.i2d p4)), .second, .val (.double (FP.i2d p5)), .second, .val (.double (FP.i2d p6)), .second, .val (.int (1 : Int32)), .val (.int (2 : Int32)), .val (.ref b_9), .val (.ref b_9)] [])) _
          refine XS.aload X11.here hx rfl (hb hby at_226) rfl rfl ?_
          show Steps p.tables e below (T11.setTop (mkF m 228 #[.val (.int p1), .val (.int p2), .val (.int p3), .val (.int p4), .val (.int p5), .val (.int p6), .val (.double (FP.i2d p3)), .second, .val (.double (FP.i2d p4)), .second, .val (.double (FP.i2d p5)), .second, .val (.double (FP.i2d p6)), .second, .val (.int (1 : Int32)), .val (.int (2 : Int32)), .val (.ref b_9), .val (.ref b_9)] [(.ref b_9)])) _
          refine X11.arraylength hx (cell := cl12) (by rw [e11]; exact Ar12.1) (State.isArrayOf_alike hZ.alike Ar12.2.1) (g := (mkF m 228 #[.val (.int p1), .val (.int p2), .val (.int p3), .val (.int p4), .val (.int p5), .val (.int p6), .val (.double (FP.i2d p3)), .second, .val (.double (FP.i2d p4)), .second, .val (.double (FP.i2d p5)), .second, .val (.double (FP.i2d p6)), .second, .val (.int (1 : Int32)), .val (.int (2 : Int32)), .val (.ref b_9), .val (.ref b_9)] [(.ref b_9)])) rfl rfl (hb hby at_228) _ ?_
          rw [len_of S12 M12]
          show Steps p.tables e below (T11.setTop (mkF m 229 #[.val (.int p1), .val (.int p2), .val (.int p3), .val (.int p4), .val (.int p5), .val (.int p6), .val (.double (FP.i2d p3)), .second, .val (.double (FP.i2d p4)), .second, .val (.double (FP.i2d p5)), .second, .val (.double (FP.i2d p6)), .second, .val (.int (1 : Int32)), .val (.int (2 : Int32)), .val (.ref b_9), .val (.ref b_9)] [(.int (2 : Int32))])) _
          refine XS.iload X11.here hx rfl (hb hby at_229) rfl ?_
          show Steps p.tables e below (T11.setTop (mkF m 231 #[.val (.int p1), .val (.int p2), .val (.int p3), .val (.int p4), .val (.int p5), .val (.int p6), .val (.double (FP.i2d p3)), .second, .val (.double (FP.i2d p4)), .second, .val (.double (FP.i2d p5)), .second, .val (.double (FP.i2d p6)), .second, .val (.int (1 : Int32)), .val (.int (2 : Int32)), .val (.ref b_9), .val (.ref b_9)] [(.int (2 : Int32)), (.int (2 : Int32))])) _
          refine XS.icmpYes X11.here hx rfl (pc0 := 231) (pc' := 236) rfl (hb hby at_231) rfl (teq ((by decide) : (2 : Int32) = (2 : Int32))).1 (by decide) (by decide) ?_
          show Steps p.tables e below (T11.setTop (mkF m 236 #[.val (.int p1), .val (.int p2), .val (.int p3), .val (.int p4), .val (.int p5), .val (.int p6), .val (.double (FP.i2d p3)), .second, .val (.double (FP.i2d p4)), .second, .val (.double (FP.i2d p5)), .second, .val (.double (FP.i2d p6)), .second, .val (.int (1 : Int32)), .val (.int (2 : Int32)), .val (.ref b_9), .val (.ref b_9)] [])) _
          refine XS.iload X11.here hx rfl (hb hby at_236) rfl ?_
          show Steps p.tables e below (T11.setTop (mkF m 238 #[.val (.int p1), .val (.int p2), .val (.int p3), .val (.int p4), .val (.int p5), .val (.int p6), .val (.double (FP.i2d p3)), .second, .val (.double (FP.i2d p4)), .second, .val (.double (FP.i2d p5)), .second, .val (.double (FP.i2d p6)), .second, .val (.int (1 : Int32)), .val (.int (2 : Int32)), .val (.ref b_9), .val (.ref b_9)] [(.int (2 : Int32))])) _
          refine XS.ifNo X11.here hx rfl (hb hby at_238) rfl ((if0 _ _).trans (tlt ((by decide) : (0 : Int32) < (2 : Int32))).2.2.2) ?_
          show Steps p.tables e below (T11.setTop (mkF m 241 #[.val (.int p1), .val (.int p2), .val (.int p3), .val (.int p4), .val (.int p5), .val (.int p6), .val (.double (FP.i2d p3)), .second, .val (.double (FP.i2d p4)), .second, .val (.double (FP.i2d p5)), .second, .val (.double (FP.i2d p6)), .second, .val (.int (1 : Int32)), .val (.int (2 : Int32)), .val (.ref b_9), .val (.ref b_9)] [])) _
          refine XS.aload X11.here hx rfl (hb hby at_241) rfl rfl ?_
          show Steps p.tables e below (T11.setTop (mkF m 243 #[.val (.int p1), .val (.int p2), .val (.int p3), .val (.int p4), .val (.int p5), .val (.int p6), .val (.double (FP.i2d p3)), .second, .val (.double (FP.i2d p4)), .second, .val (.double (FP.i2d p5)), .second, .val (.double (FP.i2d p6)), .second, .val (.int (1 : Int32)), .val (.int (2 : Int32)), .val (.ref b_9), .val (.ref b_9)] [(.ref b_9)])) _
          refine XS.iconst X11.here hx rfl (hb hby at_243) ?_
          show Steps p.tables e below (T11.setTop (mkF m 244 #[.val (.int p1), .val (.int p2), .val (.int p3), .val (.int p4), .val (.int p5), .val (.int p6), .val (.double (FP.i2d p3)), .second, .val (.double (FP.i2d p4)), .second, .val (.double (FP.i2d p5)), .second, .val (.double (FP.i2d p6)), .second, .val (.int (1 : Int32)), .val (.int (2 : Int32)), .val (.ref b_9), .val (.ref b_9)] [(.int (0 : Int32)), (.ref b_9)])) _
          refine X11.daload hx (j := (0 : Int32)) (v := (.double (FP.i2d p3))) (by rw [e11]; exact Ar13.1) (State.isArrayOf_alike hZ.alike Ar13.2.1) Ar13.2.2 in14 at15 (g := (mkF m 244 #[.val (.int p1), .val (.int p2), .val (.int p3), .val (.int p4), .val (.int p5), .val (.int p6), .val (.double (FP.i2d p3)), .second, .val (.double (FP.i2d p4)), .second, .val (.double (FP.i2d p5)), .second, .val (.double (FP.i2d p6)), .second, .val (.int (1 : Int32)), .val (.int (2 : Int32)), .val (.ref b_9), .val (.ref b_9)] [(.int (0 : Int32)), (.ref b_9)])) rfl rfl (hb hby at_244) _ ?_
          show Steps p.tables e below (T11.setTop (mkF m 245 #[.val (.int p1), .val (.int p2), .val (.int p3), .val (.int p4), .val (.int p5), .val (.int p6), .val (.double (FP.i2d p3)), .second, .val (.double (FP.i2d p4)), .second, .val (.double (FP.i2d p5)), .second, .val (.double (FP.i2d p6)), .second, .val (.int (1 : Int32)), .val (.int (2 : Int32)), .val (.ref b_9), .val (.ref b_9)] [(.double (FP.i2d p3))])) _
          refine XS.dload X11.here hx rfl (hb hby at_245) rfl ?_
          show Steps p.tables e below (T11.setTop (mkF m 247 #[.val (.int p1), .val (.int p2), .val (.int p3), .val (.int p4), .val (.int p5), .val (.int p6), .val (.double (FP.i2d p3)), .second, .val (.double (FP.i2d p4)), .second, .val (.double (FP.i2d p5)), .second, .val (.double (FP.i2d p6)), .second, .val (.int (1 : Int32)), .val (.int (2 : Int32)), .val (.ref b_9), .val (.ref b_9)] [(.double (FP.i2d p3)), (.double (FP.i2d p3))])) _
          refine XS.dcmpS X11.here hx rfl (hb hby at_247) rfl (v := (0 : Int32)) (dcmpV_self (Fl.i2d_fin _).noNaN .l) ?_
          show Steps p.tables e below (T11.setTop (mkF m 248 #[.val (.int p1), .val (.int p2), .val (.int p3), .val (.int p4), .val (.int p5), .val (.int p6), .val (.double (FP.i2d p3)), .second, .val (.double (FP.i2d p4)), .second, .val (.double (FP.i2d p5)), .second, .val (.double (FP.i2d p6)), .second, .val (.int (1 : Int32)), .val (.int (2 : Int32)), .val (.ref b_9), .val (.ref b_9)] [(.int (0 : Int32))])) _
          refine XS.ifYes X11.here hx rfl (pc0 := 248) (pc' := 253) rfl (hb hby at_248) rfl ((if0 _ _).trans (teq ((by decide) : (0 : Int32) = (0 : Int32))).1) (by decide) (by decide) ?_
          show Steps p.tables e below (T11.setTop (mkF m 253 #[.val (.int p1), .val (.int p2), .val (.int p3), .val (.int p4), .val (.int p5), .val (.int p6), .val (.double (FP.i2d p3)), .second, .val (.double (FP.i2d p4)), .second, .val (.double (FP.i2d p5)), .second, .val (.double (FP.i2d p6)), .second, .val (.int (1 : Int32)), .val (.int (2 : Int32)), .val (.ref b_9), .val (.ref b_9)] [])) _
          refine XS.iload X11.here hx rfl (hb hby at_253) rfl ?_
          show Steps p.tables e below (T11.setTop (mkF m 255 #[.val (.int p1), .val (.int p2), .val (.int p3), .val (.int p4), .val (.int p5), .val (.int p6), .val (.double (FP.i2d p3)), .second, .val (.double (FP.i2d p4)), .second, .val (.double (FP.i2d p5)), .second, .val (.double (FP.i2d p6)), .second, .val (.int (1 : Int32)), .val (.int (2 : Int32)), .val (.ref b_9), .val (.ref b_9)] [(.int (2 : Int32))])) _
          refine XS.iconst X11.here hx rfl (hb hby at_255) ?_
          show Steps p.tables e below (T11.setTop (mkF m 256 #[.val (.int p1), .val (.int p2), .val (.int p3), .val (.int p4), .val (.int p5), .val (.int p6), .val (.double (FP.i2d p3)), .second, .val (.double (FP.i2d p4)), .second, .val (.double (FP.i2d p5)), .second, .val (.double (FP.i2d p6)), .second, .val (.int (1 : Int32)), .val (.int (2 : Int32)), .val (.ref b_9), .val (.ref b_9)] [(.int (1 : Int32)), (.int (2 : Int32))])) _
          refine XS.icmpNo X11.here hx rfl (hb hby at_256) rfl (tlt ((by decide) : (1 : Int32) < (2 : Int32))).2.2.2 ?_
          show Steps p.tables e below (T11.setTop (mkF m 259 #[.val (.int p1), .val (.int p2), .val (.int p3), .val (.int p4), .val (.int p5), .val (.int p6), .val (.double (FP.i2d p3)), .second, .val (.double (FP.i2d p4)), .second, .val (.double (FP.i2d p5)), .second, .val (.double (FP.i2d p6)), .second, .val (.int (1 : Int32)), .val (.int (2 : Int32)), .val (.ref b_9), .val (.ref b_9)] [])) _
          refine XS.aload X11.here hx rfl (hb hby at_259) rfl rfl ?_
          show Steps p.tables e below (T11.setTop (mkF m 261 #[.val (.int p1), .val (.int p2), .val (.int p3), .val (.int p4), .val (.int p5), .val (.int p6), .val (.double (FP.i2d p3)), .second, .val (.double (FP.i2d p4)), .second, .val (.double (FP.i2d p5)), .second, .val (.double (FP.i2d p6)), .second, .val (.int (1 : Int32)), .val (.int (2 : Int32)), .val (.ref b_9), .val (.ref b_9)] [(.ref b_9)])) _
          refine XS.iconst X11.here hx rfl (hb hby at_261) ?_
          show Steps p.tables e below (T11.setTop (mkF m 262 #[.val (.int p1), .val (.int p2), .val (.int p3), .val (.int p4), .val (.int p5), .val (.int p6), .val (.double (FP.i2d p3)), .second, .val (.double (FP.i2d p4)), .second, .val (.double (FP.i2d p5)), .second, .val (.double (FP.i2d p6)), .second, .val (.int (1 : Int32)), .val (.int (2 : Int32)), .val (.ref b_9), .val (.ref b_9)] [(.int (1 : Int32)), (.ref b_9)])) _
          refine X11.daload hx (j := (1 : Int32)) (v := (.double (FP.i2d p4))) (by rw [e11]; exact Ar16.1) (State.isArrayOf_alike hZ.alike Ar16.2.1) Ar16.2.2 in17 at18 (g := (mkF m 262 #[.val (.int p1), .val (.int p2), .val (.int p3), .val (.int p4), .val (.int p5), .val (.int p6), .val (.double (FP.i2d p3)), .second, .val (.double (FP.i2d p4)), .second, .val (.double (FP.i2d p5)), .second, .val (.double (FP.i2d p6)), .second, .val (.int (1 : Int32)), .val (.int (2 : Int32)), .val (.ref b_9), .val (.ref b_9)] [(.int (1 : Int32)), (.ref b_9)])) rfl rfl (hb hby at_262) _ ?_
          show Steps p.tables e below (T11.setTop (mkF m 263 #[.val (.int p1), .val (.int p2), .val (.int p3), .val (.int p4), .val (.int p5), .val (.int p6), .val (.double (FP.i2d p3)), .second, .val (.double (FP.i2d p4)), .second, .val (.double (FP.i2d p5)), .second, .val (.double (FP.i2d p6)), .second, .val (.int (1 : Int32)), .val (.int (2 : Int32)), .val (.ref b_9), .val (.ref b_9)] [(.double (FP.i2d p4))])) _
          refine XS.dload X11.here hx rfl (hb hby at_263) rfl ?_
          show Steps p.tables e below (T11.setTop (mkF m 265 #[.val (.int p1), .val (.int p2), .val (.int p3), .val (.int p4), .val (.int p5), .val (.int p6), .val (.double (FP.i2d p3)), .second, .val (.double (FP.i2d p4)), .second, .val (.double (FP.i2d p5)), .second, .val (.double (FP.i2d p6)), .second, .val (.int (1 : Int32)), .val (.int (2 : Int32)), .val (.ref b_9), .val (.ref b_9)] [(.double (FP.i2d p4)), (.double (FP.i2d p4))])) _
          refine XS.dcmpS X11.here hx rfl (hb hby at_265) rfl (v := (0 : Int32)) (dcmpV_self (Fl.i2d_fin _).noNaN .l) ?_
          show Steps p.tables e below (T11.setTop (mkF m 266 #[.val (.int p1), .val (.int p2), .val (.int p3), .val (.int p4), .val (.int p5), .val (.int p6), .val (.double (FP.i2d p3)), .second, .val (.double (FP.i2d p4)), .second, .val (.double (FP.i2d p5)), .second, .val (.double (FP.i2d p6)), .second, .val (.int (1 : Int32)), .val (.int (2 : Int32)), .val (.ref b_9), .val (.ref b_9)] [(.int (0 : Int32))])) _
          refine XS.ifYes X11.here hx rfl (pc0 := 266) (pc' := 271) rfl (hb hby at_266) rfl ((if0 _ _).trans (teq ((by decide) : (0 : Int32) = (0 : Int32))).1) (by decide) (by decide) ?_
          show Steps p.tables e below (T11.setTop (mkF m 271 #[.val (.int p1), .val (.int p2), .val (.int p3), .val (.int p4), .val (.int p5), .val (.int p6), .val (.double (FP.i2d p3)), .second, .val (.double (FP.i2d p4)), .second, .val (.double (FP.i2d p5)), .second, .val (.double (FP.i2d p6)), .second, .val (.int (1 : Int32)), .val (.int (2 : Int32)), .val (.ref b_9), .val (.ref b_9)] [])) _
          refine XS.iload X11.here hx rfl (hb hby at_271) rfl ?_
          show Steps p.tables e below (T11.setTop (mkF m 273 #[.val (.int p1), .val (.int p2), .val (.int p3), .val (.int p4), .val (.int p5), .val (.int p6), .val (.double (FP.i2d p3)), .second, .val (.double (FP.i2d p4)), .second, .val (.double (FP.i2d p5)), .second, .val (.double (FP.i2d p6)), .second, .val (.int (1 : Int32)), .val (.int (2 : Int32)), .val (.ref b_9), .val (.ref b_9)] [(.int (2 : Int32))])) _
          refine XS.iconst X11.here hx rfl (hb hby at_273) ?_
          show Steps p.tables e below (T11.setTop (mkF m 274 #[.val (.int p1), .val (.int p2), .val (.int p3), .val (.int p4), .val (.int p5), .val (.int p6), .val (.double (FP.i2d p3)), .second, .val (.double (FP.i2d p4)), .second, .val (.double (FP.i2d p5)), .second, .val (.double (FP.i2d p6)), .second, .val (.int (1 : Int32)), .val (.int (2 : Int32)), .val (.ref b_9), .val (.ref b_9)] [(.int (2 : Int32)), (.int (2 : Int32))])) _
          refine XS.icmpYes X11.here hx rfl (pc0 := 274) (pc' := 289) rfl (hb hby at_274) rfl (flt ((by decide) : ¬ ((2 : Int32) < (2 : Int32)))).2.2.2 (by decide) (by decide) ?_
          show Steps p.tables e below (T11.setTop (mkF m 289 #[.val (.int p1), .val (.int p2), .val (.int p3), .val (.int p4), .val (.int p5), .val (.int p6), .val (.double (FP.i2d p3)), .second, .val (.double (FP.i2d p4)), .second, .val (.double (FP.i2d p5)), .second, .val (.double (FP.i2d p6)), .second, .val (.int (1 : Int32)), .val (.int (2 : Int32)), .val (.ref b_9), .val (.ref b_9)] [])) _
          refine XS.iload X11.here hx rfl (hb hby at_289) rfl ?_
          show Steps p.tables e below (T11.setTop (mkF m 291 #[.val (.int p1), .val (.int p2), .val (.int p3), .val (.int p4), .val (.int p5), .val (.int p6), .val (.double (FP.i2d p3)), .second, .val (.double (FP.i2d p4)), .second, .val (.double (FP.i2d p5)), .second, .val (.double (FP.i2d p6)), .second, .val (.int (1 : Int32)), .val (.int (2 : Int32)), .val (.ref b_9), .val (.ref b_9)] [(.int (2 : Int32))])) _
          refine XS.iconst X11.here hx rfl (hb hby at_291) ?_
          show Steps p.tables e below (T11.setTop (mkF m 292 #[.val (.int p1), .val (.int p2), .val (.int p3), .val (.int p4), .val (.int p5), .val (.int p6), .val (.double (FP.i2d p3)), .second, .val (.double (FP.i2d p4)), .second, .val (.double (FP.i2d p5)), .second, .val (.double (FP.i2d p6)), .second, .val (.int (1 : Int32)), .val (.int (2 : Int32)), .val (.ref b_9), .val (.ref b_9)] [(.int (3 : Int32)), (.int (2 : Int32))])) _
          refine XS.icmpYes X11.here hx rfl (pc0 := 292) (pc' := 307) rfl (hb hby at_292) rfl (flt ((by decide) : ¬ ((3 : Int32) < (2 : Int32)))).2.2.2 (by decide) (by decide) ?_
          show Steps p.tables e below (T11.setTop (mkF m 307 #[.val (.int p1), .val (.int p2), .val (.int p3), .val (.int p4), .val (.int p5), .val (.int p6), .val (.double (FP.i2d p3)), .second, .val (.double (FP.i2d p4)), .second, .val (.double (FP.i2d p5)), .second, .val (.double (FP.i2d p6)), .second, .val (.int (1 : Int32)), .val (.int (2 : Int32)), .val (.ref b_9), .val (.ref b_9)] [])) _
          refine XS.iconst X11.here hx rfl (hb hby at_307) ?_
          exact kt)
      obtain ⟨fs, hr, hrun, hended, hW, hsame⟩ := X11.leave (v := some (.int (1 : Int32))) (fun h => by rw [Bd.returns] at h; cases h)
      refine ⟨_, _, pre19 _ ?_, hrun, hended, _, _, rfl, ?_, ⟨_, rfl⟩, hW, hsame.mono (by decide) (by decide)⟩
      · show Steps p.tables e below (T11.setTop (mkF m 308 #[.val (.int p1), .val (.int p2), .val (.int p3), .val (.int p4), .val (.int p5), .val (.int p6), .val (.double (FP.i2d p3)), .second, .val (.double (FP.i2d p4)), .second, .val (.double (FP.i2d p5)), .second, .val (.double (FP.i2d p6)), .second, .val (.int (1 : Int32)), .val (.int (2 : Int32)), .val (.ref b_9), .val (.ref b_9)] [(.int (1 : Int32))])) _
        exact retN X11 hx (t := .boolean) Bd.returns (by simp) (hb hby at_308) hr
      · show Q0 Z p1 p2 p3 p4 p5 p6 h0 n0 _ T11.heap _
        rw [e11]
        exact ⟨rfl, N11⟩
    · skip
      obtain ⟨_, _, ⟨T20, L20, kk20, nn20⟩, -, X20, ⟨Lc20, hQ20, l20, y20, z20⟩, st20⟩ := Jvm.LawKit.callS X0 hx (y := (⟨"com/example/manyfront/manyfront/cli/ReferencePointFitPinLaw", "make", "(IDDDD)[D"⟩ : MethodName)) hown (mvT hZ (hw _ (List.mem_of_getElem? (i := 0) rfl))) (mvT hZ (hw _ (List.mem_of_getElem? (i := 1) rfl))) (mvT hZ (hw _ (List.mem_of_getElem? (i := 2) rfl))) (mvT hZ (hw _ (List.mem_of_getElem? (i := 3) rfl))) (by decide) (backOf (W := 0) (rmmake3 l Z a0 hw [] (FP.i2d p3) (FP.i2d p4) (FP.i2d p5) (FP.i2d p6) h0 n0 Z0 ) hZ (hw _ (List.mem_of_getElem? (i := 3) rfl)) (hw _ (List.mem_of_getElem? (i := 2) rfl)) (by decide) (by decide)) (g := (mkF m 203 #[.val (.int p1), .val (.int p2), .val (.int p3), .val (.int p4), .val (.int p5), .val (.int p6), .val (.double (FP.i2d p3)), .second, .val (.double (FP.i2d p4)), .second, .val (.double (FP.i2d p5)), .second, .val (.double (FP.i2d p6)), .second, .val (.int (2 : Int32)), .val (.int (3 : Int32)), .unset, .unset] [(.double (FP.i2d p6)), (.double (FP.i2d p5)), (.double (FP.i2d p4)), (.double (FP.i2d p3)), (.int (3 : Int32))])) rfl (by rw [hml]; rfl) (argsL := [(.int (3 : Int32)), (.double (FP.i2d p3)), (.double (FP.i2d p4)), (.double (FP.i2d p5)), (.double (FP.i2d p6))]) (rest := []) (lenOf pd__28IDDDD_29_5bD rfl) rfl (by show 2 * 0 + _ ≤ _; exact Nat.le_of_eq rfl) (hb hby at_203) (fun _ _ => ⟨rfl, e0, (by decide : 0 + 1 ≤ _), (by decide : 0 + 3 ≤ _)⟩)
      dsimp only [Pt.U, Pt.locs, Pt.cells, Pt.slots] at X20 l20 y20 z20 st20 hQ20
      subst l20 y20 z20
      obtain ⟨b_20, kb_20, rfl, N20q, K20, x20_0, x20_1⟩ := hQ20
      have N20 := Fr.app N0 N20q
      have g_b_20 : n0 ≤ b_20 := Nat.le_trans Z0 x20_0
      have z21 : n0 ≤ T20.heap.size := Nat.le_trans Z0 K20.1
      obtain ⟨_, _, ⟨T22, L22, kk22, nn22⟩, -, X22, ⟨Lc22, hQ22, l22, y22, z22⟩, st22⟩ := Jvm.LawKit.callS X20 hx (y := (⟨"com/example/manyfront/manyfront/cli/ReferencePoint", "fit", "([DI)[D"⟩ : MethodName)) hown (mvT hZ (hw _ (List.mem_of_getElem? (i := 5) rfl))) (mvT hZ (hw _ (List.mem_of_getElem? (i := 6) rfl))) (mvT hZ (hw _ (List.mem_of_getElem? (i := 7) rfl))) (mvT hZ (hw _ (List.mem_of_getElem? (i := 8) rfl))) (by decide) (backOf (W := 0) (rmfitS3 l Z a0 hw [] b_20 (FP.i2d p3) (FP.i2d p4) (FP.i2d p5) kb_20 T20.heap n0 z21 x20_1) hZ (hw _ (List.mem_of_getElem? (i := 8) rfl)) (hw _ (List.mem_of_getElem? (i := 7) rfl)) (by decide) (by decide)) (g := (mkF m 212 #[.val (.int p1), .val (.int p2), .val (.int p3), .val (.int p4), .val (.int p5), .val (.int p6), .val (.double (FP.i2d p3)), .second, .val (.double (FP.i2d p4)), .second, .val (.double (FP.i2d p5)), .second, .val (.double (FP.i2d p6)), .second, .val (.int (2 : Int32)), .val (.int (3 : Int32)), .val (.ref b_20), .unset] [(.int (3 : Int32)), (.ref b_20)])) rfl (by rw [hml]; rfl) (argsL := [(.ref b_20), (.int (3 : Int32))]) (rest := []) (lenOf pd__28_5bDI_29_5bD rfl) rfl (by show 2 * 0 + _ ≤ _; exact Nat.le_of_eq rfl) (hb hby at_212) (fun _ _ => ⟨rfl, rfl, (by decide : 1 + 0 ≤ _), (by decide : 3 + 0 ≤ _)⟩)
      dsimp only [Pt.U, Pt.locs, Pt.cells, Pt.slots] at X22 l22 y22 z22 st22 hQ22
      subst l22 y22 z22
      obtain ⟨rfl, N22q, e22⟩ := hQ22
      have N22 := Fr.app N20 N22q
      obtain ⟨cl23, Ar23, Q23, S23, M23, H23, G23⟩ := id x20_1
      obtain ⟨cl24, Ar24, Q24, S24, M24, H24, G24⟩ := id x20_1
      have in25 : ¬ ((0 : Int32) < 0 ∨ cl24.slots.size ≤ ((0 : Int32)).toNatClampNeg) := inb_of S24 ⟨by decide, by decide⟩
      have at26 : cl24.slots[((0 : Int32)).toNatClampNeg]? = some (.double (FP.i2d p3)) := H24 0 (by rw [S24]; decide)
      obtain ⟨cl27, Ar27, Q27, S27, M27, H27, G27⟩ := id x20_1
      have in28 : ¬ ((1 : Int32) < 0 ∨ cl27.slots.size ≤ ((1 : Int32)).toNatClampNeg) := inb_of S27 ⟨by decide, by decide⟩
      have at29 : cl27.slots[((1 : Int32)).toNatClampNeg]? = some (.double (FP.i2d p4)) := H27 1 (by rw [S27]; decide)
      obtain ⟨cl30, Ar30, Q30, S30, M30, H30, G30⟩ := id x20_1
      have in31 : ¬ ((2 : Int32) < 0 ∨ cl30.slots.size ≤ ((2 : Int32)).toNatClampNeg) := inb_of S30 ⟨by decide, by decide⟩
      have at32 : cl30.slots[((2 : Int32)).toNatClampNeg]? = some (.double (FP.i2d p5)) := H30 2 (by rw [S30]; decide)
      have pre33 : ∀ t, Steps p.tables e below (T22.setTop (mkF m 308 #[.val (.int p1), .val (.int p2), .val (.int p3), .val (.int p4), .val (.int p5), .val (.int p6), .val (.double (FP.i2d p3)), .second, .val (.double (FP.i2d p4)), .second, .val (.double (FP.i2d p5)), .second, .val (.double (FP.i2d p6)), .second, .val (.int (2 : Int32)), .val (.int (3 : Int32)), .val (.ref b_20), .val (.ref b_20)] [(.int (1 : Int32))])) t → Steps p.tables e below (s₁.setTop (entryFrame m #[(.int p1), (.int p2), (.int p3), (.int p4), (.int p5), (.int p6)] maxLocals)) t := fun t kt => pre3 t (by
          show Steps p.tables e below (s₁.setTop (mkF m 173 #[.val (.int p1), .val (.int p2), .val (.int p3), .val (.int p4), .val (.int p5), .val (.int p6), .val (.double (FP.i2d p3)), .second, .val (.double (FP.i2d p4)), .second, .val (.double (FP.i2d p5)), .second, .val (.double (FP.i2d p6)), .second, .unset, .unset, .unset, .unset] [])) _
          refine XS.iloadN X0.here hx rfl (hb hby at_173) rfl ?_
          show Steps p.tables e below (s₁.setTop (mkF m 174 #[.val (.int p1), .val (.int p2), .val (.int p3), .val (.int p4), .val (.int p5), .val (.int p6), .val (.double (FP.i2d p3)), .second, .val (.double (FP.i2d p4)), .second, .val (.double (FP.i2d p5)), .second, .val (.double (FP.i2d p6)), .second, .unset, .unset, .unset, .unset] [(.int p2)])) _
          refine XS.iconst X0.here hx rfl (hb hby at_174) ?_
          show Steps p.tables e below (s₁.setTop (mkF m 175 #[.val (.int p1), .val (.int p2), .val (.int p3), .val (.int p4), .val (.int p5), .val (.int p6), .val (.double (FP.i2d p3)), .second, .val (.double (FP.i2d p4)), .second, .val (.double (FP.i2d p5)), .second, .val (.double (FP.i2d p6)), .second, .unset, .unset, .unset, .unset] [(.int (3 : Int32)), (.int p2)])) _
          refine XS.iand X0.here hx rfl (hb hby at_175) rfl ?_
          show Steps p.tables e below (s₁.setTop (mkF m 176 #[.val (.int p1), .val (.int p2), .val (.int p3), .val (.int p4), .val (.int p5), .val (.int p6), .val (.double (FP.i2d p3)), .second, .val (.double (FP.i2d p4)), .second, .val (.double (FP.i2d p5)), .second, .val (.double (FP.i2d p6)), .second, .unset, .unset, .unset, .unset] [(.int (p2 &&& (3 : Int32)))])) _
          rw [hk]
          show Steps p.tables e below (s₁.setTop (mkF m 176 #[.val (.int p1), .val (.int p2), .val (.int p3), .val (.int p4), .val (.int p5), .val (.int p6), .val (.double (FP.i2d p3)), .second, .val (.double (FP.i2d p4)), .second, .val (.double (FP.i2d p5)), .second, .val (.double (FP.i2d p6)), .second, .unset, .unset, .unset, .unset] [(.int (2 : Int32))])) _
          refine XS.istore X0.here hx rfl (hb hby at_176) rfl (l' := #[.val (.int p1), .val (.int p2), .val (.int p3), .val (.int p4), .val (.int p5), .val (.int p6), .val (.double (FP.i2d p3)), .second, .val (.double (FP.i2d p4)), .second, .val (.double (FP.i2d p5)), .second, .val (.double (FP.i2d p6)), .second, .val (.int (2 : Int32)), .unset, .unset, .unset]) rfl ?_
          show Steps p.tables e below (s₁.setTop (mkF m 178 #[.val (.int p1), .val (.int p2), .val (.int p3), .val (.int p4), .val (.int p5), .val (.int p6), .val (.double (FP.i2d p3)), .second, .val (.double (FP.i2d p4)), .second, .val (.double (FP.i2d p5)), .second, .val (.double (FP.i2d p6)), .second, .val (.int (2 : Int32)), .unset, .unset, .unset] [])) _
          refine XS.iload X0.here hx rfl (hb hby at_178) rfl ?_
          show Steps p.tables e below (s₁.setTop (mkF m 180 #[.val (.int p1), .val (.int p2), .val (.int p3), .val (.int p4), .val (.int p5), .val (.int p6), .val (.double (FP.i2d p3)), .second, .val (.double (FP.i2d p4)), .second, .val (.double (FP.i2d p5)), .second, .val (.double (FP.i2d p6)), .second, .val (.int (2 : Int32)), .unset, .unset, .unset] [(.int (2 : Int32))])) _
          refine XS.ifYes X0.here hx rfl (pc0 := 180) (pc' := 187) rfl (hb hby at_180) rfl ((if0 _ _).trans (feq ((by decide) : ¬ ((2 : Int32) = (0 : Int32)))).2) (by decide) (by decide) ?_
          show Steps p.tables e below (s₁.setTop (mkF m 187 #[.val (.int p1), .val (.int p2), .val (.int p3), .val (.int p4), .val (.int p5), .val (.int p6), .val (.double (FP.i2d p3)), .second, .val (.double (FP.i2d p4)), .second, .val (.double (FP.i2d p5)), .second, .val (.double (FP.i2d p6)), .second, .val (.int (2 : Int32)), .unset, .unset, .unset] [])) _
          refine XS.iload X0.here hx rfl (hb hby at_187) rfl ?_
          show Steps p.tables e below (s₁.setTop (mkF m 189 #[.val (.int p1), .val (.int p2), .val (.int p3), .val (.int p4), .val (.int p5), .val (.int p6), .val (.double (FP.i2d p3)), .second, .val (.double (FP.i2d p4)), .second, .val (.double (FP.i2d p5)), .second, .val (.double (FP.i2d p6)), .second, .val (.int (2 : Int32)), .unset, .unset, .unset] [(.int (2 : Int32))])) _
          refine XS.iconst X0.here hx rfl (hb hby at_189) ?_
          show Steps p.tables e below (s₁.setTop (mkF m 190 #[.val (.int p1), .val (.int p2), .val (.int p3), .val (.int p4), .val (.int p5), .val (.int p6), .val (.double (FP.i2d p3)), .second, .val (.double (FP.i2d p4)), .second, .val (.double (FP.i2d p5)), .second, .val (.double (FP.i2d p6)), .second, .val (.int (2 : Int32)), .unset, .unset, .unset] [(.int (1 : Int32)), (.int (2 : Int32))])) _
          refine XS.iadd X0.here hx rfl (hb hby at_190) rfl ?_
          show Steps p.tables e below (s₁.setTop (mkF m 191 #[.val (.int p1), .val (.int p2), .val (.int p3), .val (.int p4), .val (.int p5), .val (.int p6), .val (.double (FP.i2d p3)), .second, .val (.double (FP.i2d p4)), .second, .val (.double (FP.i2d p5)), .second, .val (.double (FP.i2d p6)), .second, .val (.int (2 : Int32)), .unset, .unset, .unset] [(.int (3 : Int32))])) _
          refine XS.istore X0.here hx rfl (hb hby at_191) rfl (l' := #[.val (.int p1), .val (.int p2), .val (.int p3), .val (.int p4), .val (.int p5), .val (.int p6), .val (.double (FP.i2d p3)), .second, .val (.double (FP.i2d p4)), .second, .val (.double (FP.i2d p5)), .second, .val (.double (FP.i2d p6)), .second, .val (.int (2 : Int32)), .val (.int (3 : Int32)), .unset, .unset]) rfl ?_
          show Steps p.tables e below (s₁.setTop (mkF m 193 #[.val (.int p1), .val (.int p2), .val (.int p3), .val (.int p4), .val (.int p5), .val (.int p6), .val (.double (FP.i2d p3)), .second, .val (.double (FP.i2d p4)), .second, .val (.double (FP.i2d p5)), .second, .val (.double (FP.i2d p6)), .second, .val (.int (2 : Int32)), .val (.int (3 : Int32)), .unset, .unset] [])) _
          refine XS.iload X0.here hx rfl (hb hby at_193) rfl ?_
          show Steps p.tables e below (s₁.setTop (mkF m 195 #[.val (.int p1), .val (.int p2), .val (.int p3), .val (.int p4), .val (.int p5), .val (.int p6), .val (.double (FP.i2d p3)), .second, .val (.double (FP.i2d p4)), .second, .val (.double (FP.i2d p5)), .second, .val (.double (FP.i2d p6)), .second, .val (.int (2 : Int32)), .val (.int (3 : Int32)), .unset, .unset] [(.int (3 : Int32))])) _
          refine XS.dload X0.here hx rfl (hb hby at_195) rfl ?_
          show Steps p.tables e below (s₁.setTop (mkF m 197 #[.val (.int p1), .val (.int p2), .val (.int p3), .val (.int p4), .val (.int p5), .val (.int p6), .val (.double (FP.i2d p3)), .second, .val (.double (FP.i2d p4)), .second, .val (.double (FP.i2d p5)), .second, .val (.double (FP.i2d p6)), .second, .val (.int (2 : Int32)), .val (.int (3 : Int32)), .unset, .unset] [(.double (FP.i2d p3)), (.int (3 : Int32))])) _
          refine XS.dload X0.here hx rfl (hb hby at_197) rfl ?_
          show Steps p.tables e below (s₁.setTop (mkF m 199 #[.val (.int p1), .val (.int p2), .val (.int p3), .val (.int p4), .val (.int p5), .val (.int p6), .val (.double (FP.i2d p3)), .second, .val (.double (FP.i2d p4)), .second, .val (.double (FP.i2d p5)), .second, .val (.double (FP.i2d p6)), .second, .val (.int (2 : Int32)), .val (.int (3 : Int32)), .unset, .unset] [(.double (FP.i2d p4)), (.double (FP.i2d p3)), (.int (3 : Int32))])) _
          refine XS.dload X0.here hx rfl (hb hby at_199) rfl ?_
          show Steps p.tables e below (s₁.setTop (mkF m 201 #[.val (.int p1), .val (.int p2), .val (.int p3), .val (.int p4), .val (.int p5), .val (.int p6), .val (.double (FP.i2d p3)), .second, .val (.double (FP.i2d p4)), .second, .val (.double (FP.i2d p5)), .second, .val (.double (FP.i2d p6)), .second, .val (.int (2 : Int32)), .val (.int (3 : Int32)), .unset, .unset] [(.double (FP.i2d p5)), (.double (FP.i2d p4)), (.double (FP.i2d p3)), (.int (3 : Int32))])) _
          refine XS.dload X0.here hx rfl (hb hby at_201) rfl ?_
          show Steps p.tables e below (s₁.setTop (mkF m 203 #[.val (.int p1), .val (.int p2), .val (.int p3), .val (.int p4), .val (.int p5), .val (.int p6), .val (.double (FP.i2d p3)), .second, .val (.double (FP.i2d p4)), .second, .val (.double (FP.i2d p5)), .second, .val (.double (FP.i2d p6)), .second, .val (.int (2 : Int32)), .val (.int (3 : Int32)), .unset, .unset] [(.double (FP.i2d p6)), (.double (FP.i2d p5)), (.double (FP.i2d p4)), (.double (FP.i2d p3)), (.int (3 : Int32))])) _
          refine st20 _ ?_
          show Steps p.tables e below (T20.setTop (mkF m 206 #[.val (.int p1), .val (.int p2), .val (.int p3), .val (.int p4), .val (.int p5), .val (.int p6), .val (.double (FP.i2d p3)), .second, .val (.double (FP.i2d p4)), .second, .val (.double (FP.i2d p5)), .second, .val (.double (FP.i2d p6)), .second, .val (.int (2 : Int32)), .val (.int (3 : Int32)), .unset, .unset] [(.ref b_20)])) _
          refine XS.astore X20.here hx rfl (hb hby at_206) rfl rfl (l' := #[.val (.int p1), .val (.int p2), .val (.int p3), .val (.int p4), .val (.int p5), .val (.int p6), .val (.double (FP.i2d p3)), .second, .val (.double (FP.i2d p4)), .second, .val (.double (FP.i2d p5)), .second, .val (.double (FP.i2d p6)), .second, .val (.int (2 : Int32)), .val (.int (3 : Int32)), .val (.ref b_20), .unset]) rfl ?_
          show Steps p.tables e below (T20.setTop (mkF m 208 #[.val (.int p1), .val (.int p2), .val (.int p3), .val (.int p4), .val (.int p5), .val (.int p6), .val (.double (FP.i2d p3)), .second, .val (.double (FP.i2d p4)), .second, .val (.double (FP.i2d p5)), .second, .val (.double (FP.i2d p6)), .second, .val (.int (2 : Int32)), .val (.int (3 : Int32)), .val (.ref b_20), .unset] [])) _
          refine XS.aload X20.here hx rfl (hb hby at_208) rfl rfl ?_
          show Steps p.tables e below (T20.setTop (mkF m 210 #[.val (.int p1), .val (.int p2), .val (.int p3), .val (.int p4), .val (.int p5), .val (.int p6), .val (.double (FP.i2d p3)), .second, .val (.double (FP.i2d p4)), .second, .val (.double (FP.i2d p5)), .second, .val (.double (FP.i2d p6)), .second, .val (.int (2 : Int32)), .val (.int (3 : Int32)), .val (.ref b_20), .unset] [(.ref b_20)])) _
          refine XS.iload X20.here hx rfl (hb hby at_210) rfl ?_
          show Steps p.tables e below (T20.setTop (mkF m 212 #[.val (.int p1), .val (.int p2), .val (.int p3), .val (.int p4), .val (.int p5), .val (.int p6), .val (.double (FP.i2d p3)), .second, .val (.double (FP.i2d p4)), .second, .val (.double (FP.i2d p5)), .second, .val (.double (FP.i2d p6)), .second, .val (.int (2 : Int32)), .val (.int (3 : Int32)), .val (.ref b_20), .unset] [(.int (3 : Int32)), (.ref b_20)])) _
          refine st22 _ ?_
          show Steps p.tables e below (T22.setTop (mkF m 215 #[.val (.int p1), .val (.int p2), .val (.int p3), .val (.int p4), .val (.int p5), .val (.int p6), .val (.double (FP.i2d p3)), .second, .val (.double (FP.i2d p4)), .second, .val (.double (FP.i2d p5)), .second, .val (.double (FP.i2d p6)), .second, .val (.int (2 : Int32)), .val (.int (3 : Int32)), .val (.ref b_20), .unset] [(.ref b_20)])) _
          refine XS.astore X22.here hx rfl (hb hby at_215) rfl rfl (l' := #[.val (.int p1), .val (.int p2), .val (.int p3), .val (.int p4), .val (.int p5), .val (.int p6), .val (.double (FP.i2d p3)), .second, .val (.double (FP.i2d p4)), .second, .val (.double (FP.i2d p5)), .second, .val (.double (FP.i2d p6)), .second, .val (.int (2 : Int32)), .val (.int (3 : Int32)), .val (.ref b_20), .val (.ref b_20)]) rfl ?_
          show Steps p.tables e below (T22.setTop (mkF m 217 #[.val (.int p1), .val (.int p2), .val (.int p3), .val (.int p4), .val (.int p5), .val (.int p6), .val (.double (FP.i2d p3)), .second, .val (.double (FP.i2d p4)), .second, .val (.double (FP.i2d p5)), .second, .val (.double (FP.i2d p6)), .second, .val (.int (2 : Int32)), .val (.int (3 : Int32)), .val (.ref b_20), .val (.ref b_20)] [])) _
          refine XS.aload X22.here hx rfl (hb hby at_217) rfl rfl ?_
          show Steps p.tables e below (T22.setTop (mkF m 219 #[.val (.int p1), .val (.int p2), .val (.int p3), .val (.int p4), .val (.int p5), .val (.int p6), .val (.double (FP.i2d p3)), .second, .val (.double (FP.i2d p4)), .second, .val (.double (FP.i2d p5)), .second, .val (.double (FP.i2d p6)), .second, .val (.int (2 : Int32)), .val (.int (3 : Int32)), .val (.ref b_20), .val (.ref b_20)] [(.ref b_20)])) _
          refine XS.aload X22.here hx rfl (hb hby at_219) rfl rfl ?_
          show Steps p.tables e below (T22.setTop (mkF m 221 #[.val (.int p1), .val (.int p2), .val (.int p3), .val (.int p4), .val (.int p5), .val (.int p6), .val (.double (FP.i2d p3)), .second, .val (.double (FP.i2d p4)), .second, .val (.double (FP.i2d p5)), .second, .val (.double (FP.i2d p6)), .second, .val (.int (2 : Int32)), .val (.int (3 : Int32)), .val (.ref b_20), .val (.ref b_20)] [(.ref b_20), (.ref b_20)])) _
          refine Jvm.RoadKit.acmp (g := (mkF m 221 #[.val (.int p1), .val (.int p2), .val (.int p3), .val (.int p4), .val (.int p5), .val (.int p6), .val (.double (FP.i2d p3)), .second, .val (.double (FP.i2d p4)), .second, .val (.double (FP.i2d p5)), .second, .val (.double (FP.i2d p6)), .second, .val (.int (2 : Int32)), .val (.int (3 : Int32)), .val (.ref b_20), .val (.ref b_20)] [(.ref b_20), (.ref b_20)])) X22 hx rfl rfl rfl (pc0 := 221) (pc' := 226) (same := true) rfl (hb hby at_221) rfl (decide_eq_true rfl) (by decide) (by decide) ?_
          show Steps p.tables e below (T22.setTop (mkF m 226 #[.val (.int p1), .val (.int p2), .val (.int p3), .val (.int p4), .val (.int p5), .val (.int p6), .val (.double (FP.i2d p3)), .second, .val (.double (FP.i2d p4)), .second, .val (.double (FP.i2d p5)), .second, .val (.double (FP.i2d p6)), .second, .val (.int (2 : Int32)), .val (.int (3 : Int32)), .val (.ref b_20), .val (.ref b_20)] [])) _
          refine XS.aload X22.here hx rfl (hb hby at_226) rfl rfl ?_
          show Steps p.tables e below (T22.setTop (mkF m 228 #[.val (.int p1), .val (.int p2), .val (.int p3), .val (.int p4), .val (.int p5), .val (.int p6), .val (.double (FP.i2d p3)), .second, .val (.double (FP.i2d p4)), .second, .val (.double (FP.i2d p5)), .second, .val (.double (FP.i2d p6)), .second, .val (.int (2 : Int32)), .val (.int (3 : Int32)), .val (.ref b_20), .val (.ref b_20)] [(.ref b_20)])) _
          refine X22.arraylength hx (cell := cl23) (by rw [e22]; exact Ar23.1) (State.isArrayOf_alike hZ.alike Ar23.2.1) (g := (mkF m 228 #[.val (.int p1), .val (.int p2), .val (.int p3), .val (.int p4), .val (.int p5), .val (.int p6), .val (.double (FP.i2d p3)), .second, .val (.double (FP.i2d p4)), .second, .val (.double (FP.i2d p5)), .second, .val (.double (FP.i2d p6)), .second, .val (.int (2 : Int32)), .val (.int (3 : Int32)), .val (.ref b_20), .val (.ref b_20)] [(.ref b_20)])) rfl rfl (hb hby at_228) _ ?_
          rw [len_of S23 M23]
          show Steps p.tables e below (T22.setTop (mkF m 229 #[.val (.int p1), .val (.int p2), .val (.int p3), .val (.int p4), .val (.int p5), .val (.int p6), .val (.double (FP.i2d p3)), .second, .val (.double (FP.i2d p4)), .second, .val (.double (FP.i2d p5)), .second, .val (.double (FP.i2d p6)), .second, .val (.int (2 : Int32)), .val (.int (3 : Int32)), .val (.ref b_20), .val (.ref b_20)] [(.int (3 : Int32))])) _
          refine XS.iload X22.here hx rfl (hb hby at_229) rfl ?_
          show Steps p.tables e below (T22.setTop (mkF m 231 #[.val (.int p1), .val (.int p2), .val (.int p3), .val (.int p4), .val (.int p5), .val (.int p6), .val (.double (FP.i2d p3)), .second, .val (.double (FP.i2d p4)), .second, .val (.double (FP.i2d p5)), .second, .val (.double (FP.i2d p6)), .second, .val (.int (2 : Int32)), .val (.int (3 : Int32)), .val (.ref b_20), .val (.ref b_20)] [(.int (3 : Int32)), (.int (3 : Int32))])) _
          refine XS.icmpYes X22.here hx rfl (pc0 := 231) (pc' := 236) rfl (hb hby at_231) rfl (teq ((by decide) : (3 : Int32) = (3 : Int32))).1 (by decide) (by decide) ?_
          show Steps p.tables e below (T22.setTop (mkF m 236 #[.val (.int p1), .val (.int p2), .val (.int p3), .val (.int p4), .val (.int p5), .val (.int p6), .val (.double (FP.i2d p3)), .second, .val (.double (FP.i2d p4)), .second, .val (.double (FP.i2d p5)), .second, .val (.double (FP.i2d p6)), .second, .val (.int (2 : Int32)), .val (.int (3 : Int32)), .val (.ref b_20), .val (.ref b_20)] [])) _
          refine XS.iload X22.here hx rfl (hb hby at_236) rfl ?_
          show Steps p.tables e below (T22.setTop (mkF m 238 #[.val (.int p1), .val (.int p2), .val (.int p3), .val (.int p4), .val (.int p5), .val (.int p6), .val (.double (FP.i2d p3)), .second, .val (.double (FP.i2d p4)), .second, .val (.double (FP.i2d p5)), .second, .val (.double (FP.i2d p6)), .second, .val (.int (2 : Int32)), .val (.int (3 : Int32)), .val (.ref b_20), .val (.ref b_20)] [(.int (3 : Int32))])) _
          refine XS.ifNo X22.here hx rfl (hb hby at_238) rfl ((if0 _ _).trans (tlt ((by decide) : (0 : Int32) < (3 : Int32))).2.2.2) ?_
          show Steps p.tables e below (T22.setTop (mkF m 241 #[.val (.int p1), .val (.int p2), .val (.int p3), .val (.int p4), .val (.int p5), .val (.int p6), .val (.double (FP.i2d p3)), .second, .val (.double (FP.i2d p4)), .second, .val (.double (FP.i2d p5)), .second, .val (.double (FP.i2d p6)), .second, .val (.int (2 : Int32)), .val (.int (3 : Int32)), .val (.ref b_20), .val (.ref b_20)] [])) _
          refine XS.aload X22.here hx rfl (hb hby at_241) rfl rfl ?_
          show Steps p.tables e below (T22.setTop (mkF m 243 #[.val (.int p1), .val (.int p2), .val (.int p3), .val (.int p4), .val (.int p5), .val (.int p6), .val (.double (FP.i2d p3)), .second, .val (.double (FP.i2d p4)), .second, .val (.double (FP.i2d p5)), .second, .val (.double (FP.i2d p6)), .second, .val (.int (2 : Int32)), .val (.int (3 : Int32)), .val (.ref b_20), .val (.ref b_20)] [(.ref b_20)])) _
          refine XS.iconst X22.here hx rfl (hb hby at_243) ?_
          show Steps p.tables e below (T22.setTop (mkF m 244 #[.val (.int p1), .val (.int p2), .val (.int p3), .val (.int p4), .val (.int p5), .val (.int p6), .val (.double (FP.i2d p3)), .second, .val (.double (FP.i2d p4)), .second, .val (.double (FP.i2d p5)), .second, .val (.double (FP.i2d p6)), .second, .val (.int (2 : Int32)), .val (.int (3 : Int32)), .val (.ref b_20), .val (.ref b_20)] [(.int (0 : Int32)), (.ref b_20)])) _
          refine X22.daload hx (j := (0 : Int32)) (v := (.double (FP.i2d p3))) (by rw [e22]; exact Ar24.1) (State.isArrayOf_alike hZ.alike Ar24.2.1) Ar24.2.2 in25 at26 (g := (mkF m 244 #[.val (.int p1), .val (.int p2), .val (.int p3), .val (.int p4), .val (.int p5), .val (.int p6), .val (.double (FP.i2d p3)), .second, .val (.double (FP.i2d p4)), .second, .val (.double (FP.i2d p5)), .second, .val (.double (FP.i2d p6)), .second, .val (.int (2 : Int32)), .val (.int (3 : Int32)), .val (.ref b_20), .val (.ref b_20)] [(.int (0 : Int32)), (.ref b_20)])) rfl rfl (hb hby at_244) _ ?_
          show Steps p.tables e below (T22.setTop (mkF m 245 #[.val (.int p1), .val (.int p2), .val (.int p3), .val (.int p4), .val (.int p5), .val (.int p6), .val (.double (FP.i2d p3)), .second, .val (.double (FP.i2d p4)), .second, .val (.double (FP.i2d p5)), .second, .val (.double (FP.i2d p6)), .second, .val (.int (2 : Int32)), .val (.int (3 : Int32)), .val (.ref b_20), .val (.ref b_20)] [(.double (FP.i2d p3))])) _
          refine XS.dload X22.here hx rfl (hb hby at_245) rfl ?_
          show Steps p.tables e below (T22.setTop (mkF m 247 #[.val (.int p1), .val (.int p2), .val (.int p3), .val (.int p4), .val (.int p5), .val (.int p6), .val (.double (FP.i2d p3)), .second, .val (.double (FP.i2d p4)), .second, .val (.double (FP.i2d p5)), .second, .val (.double (FP.i2d p6)), .second, .val (.int (2 : Int32)), .val (.int (3 : Int32)), .val (.ref b_20), .val (.ref b_20)] [(.double (FP.i2d p3)), (.double (FP.i2d p3))])) _
          refine XS.dcmpS X22.here hx rfl (hb hby at_247) rfl (v := (0 : Int32)) (dcmpV_self (Fl.i2d_fin _).noNaN .l) ?_
          show Steps p.tables e below (T22.setTop (mkF m 248 #[.val (.int p1), .val (.int p2), .val (.int p3), .val (.int p4), .val (.int p5), .val (.int p6), .val (.double (FP.i2d p3)), .second, .val (.double (FP.i2d p4)), .second, .val (.double (FP.i2d p5)), .second, .val (.double (FP.i2d p6)), .second, .val (.int (2 : Int32)), .val (.int (3 : Int32)), .val (.ref b_20), .val (.ref b_20)] [(.int (0 : Int32))])) _
          refine XS.ifYes X22.here hx rfl (pc0 := 248) (pc' := 253) rfl (hb hby at_248) rfl ((if0 _ _).trans (teq ((by decide) : (0 : Int32) = (0 : Int32))).1) (by decide) (by decide) ?_
          show Steps p.tables e below (T22.setTop (mkF m 253 #[.val (.int p1), .val (.int p2), .val (.int p3), .val (.int p4), .val (.int p5), .val (.int p6), .val (.double (FP.i2d p3)), .second, .val (.double (FP.i2d p4)), .second, .val (.double (FP.i2d p5)), .second, .val (.double (FP.i2d p6)), .second, .val (.int (2 : Int32)), .val (.int (3 : Int32)), .val (.ref b_20), .val (.ref b_20)] [])) _
          refine XS.iload X22.here hx rfl (hb hby at_253) rfl ?_
          show Steps p.tables e below (T22.setTop (mkF m 255 #[.val (.int p1), .val (.int p2), .val (.int p3), .val (.int p4), .val (.int p5), .val (.int p6), .val (.double (FP.i2d p3)), .second, .val (.double (FP.i2d p4)), .second, .val (.double (FP.i2d p5)), .second, .val (.double (FP.i2d p6)), .second, .val (.int (2 : Int32)), .val (.int (3 : Int32)), .val (.ref b_20), .val (.ref b_20)] [(.int (3 : Int32))])) _
          refine XS.iconst X22.here hx rfl (hb hby at_255) ?_
          show Steps p.tables e below (T22.setTop (mkF m 256 #[.val (.int p1), .val (.int p2), .val (.int p3), .val (.int p4), .val (.int p5), .val (.int p6), .val (.double (FP.i2d p3)), .second, .val (.double (FP.i2d p4)), .second, .val (.double (FP.i2d p5)), .second, .val (.double (FP.i2d p6)), .second, .val (.int (2 : Int32)), .val (.int (3 : Int32)), .val (.ref b_20), .val (.ref b_20)] [(.int (1 : Int32)), (.int (3 : Int32))])) _
          refine XS.icmpNo X22.here hx rfl (hb hby at_256) rfl (tlt ((by decide) : (1 : Int32) < (3 : Int32))).2.2.2 ?_
          show Steps p.tables e below (T22.setTop (mkF m 259 #[.val (.int p1), .val (.int p2), .val (.int p3), .val (.int p4), .val (.int p5), .val (.int p6), .val (.double (FP.i2d p3)), .second, .val (.double (FP.i2d p4)), .second, .val (.double (FP.i2d p5)), .second, .val (.double (FP.i2d p6)), .second, .val (.int (2 : Int32)), .val (.int (3 : Int32)), .val (.ref b_20), .val (.ref b_20)] [])) _
          refine XS.aload X22.here hx rfl (hb hby at_259) rfl rfl ?_
          show Steps p.tables e below (T22.setTop (mkF m 261 #[.val (.int p1), .val (.int p2), .val (.int p3), .val (.int p4), .val (.int p5), .val (.int p6), .val (.double (FP.i2d p3)), .second, .val (.double (FP.i2d p4)), .second, .val (.double (FP.i2d p5)), .second, .val (.double (FP.i2d p6)), .second, .val (.int (2 : Int32)), .val (.int (3 : Int32)), .val (.ref b_20), .val (.ref b_20)] [(.ref b_20)])) _
          refine XS.iconst X22.here hx rfl (hb hby at_261) ?_
          show Steps p.tables e below (T22.setTop (mkF m 262 #[.val (.int p1), .val (.int p2), .val (.int p3), .val (.int p4), .val (.int p5), .val (.int p6), .val (.double (FP.i2d p3)), .second, .val (.double (FP.i2d p4)), .second, .val (.double (FP.i2d p5)), .second, .val (.double (FP.i2d p6)), .second, .val (.int (2 : Int32)), .val (.int (3 : Int32)), .val (.ref b_20), .val (.ref b_20)] [(.int (1 : Int32)), (.ref b_20)])) _
          refine X22.daload hx (j := (1 : Int32)) (v := (.double (FP.i2d p4))) (by rw [e22]; exact Ar27.1) (State.isArrayOf_alike hZ.alike Ar27.2.1) Ar27.2.2 in28 at29 (g := (mkF m 262 #[.val (.int p1), .val (.int p2), .val (.int p3), .val (.int p4), .val (.int p5), .val (.int p6), .val (.double (FP.i2d p3)), .second, .val (.double (FP.i2d p4)), .second, .val (.double (FP.i2d p5)), .second, .val (.double (FP.i2d p6)), .second, .val (.int (2 : Int32)), .val (.int (3 : Int32)), .val (.ref b_20), .val (.ref b_20)] [(.int (1 : Int32)), (.ref b_20)])) rfl rfl (hb hby at_262) _ ?_
          show Steps p.tables e below (T22.setTop (mkF m 263 #[.val (.int p1), .val (.int p2), .val (.int p3), .val (.int p4), .val (.int p5), .val (.int p6), .val (.double (FP.i2d p3)), .second, .val (.double (FP.i2d p4)), .second, .val (.double (FP.i2d p5)), .second, .val (.double (FP.i2d p6)), .second, .val (.int (2 : Int32)), .val (.int (3 : Int32)), .val (.ref b_20), .val (.ref b_20)] [(.double (FP.i2d p4))])) _
          refine XS.dload X22.here hx rfl (hb hby at_263) rfl ?_
          show Steps p.tables e below (T22.setTop (mkF m 265 #[.val (.int p1), .val (.int p2), .val (.int p3), .val (.int p4), .val (.int p5), .val (.int p6), .val (.double (FP.i2d p3)), .second, .val (.double (FP.i2d p4)), .second, .val (.double (FP.i2d p5)), .second, .val (.double (FP.i2d p6)), .second, .val (.int (2 : Int32)), .val (.int (3 : Int32)), .val (.ref b_20), .val (.ref b_20)] [(.double (FP.i2d p4)), (.double (FP.i2d p4))])) _
          refine XS.dcmpS X22.here hx rfl (hb hby at_265) rfl (v := (0 : Int32)) (dcmpV_self (Fl.i2d_fin _).noNaN .l) ?_
          show Steps p.tables e below (T22.setTop (mkF m 266 #[.val (.int p1), .val (.int p2), .val (.int p3), .val (.int p4), .val (.int p5), .val (.int p6), .val (.double (FP.i2d p3)), .second, .val (.double (FP.i2d p4)), .second, .val (.double (FP.i2d p5)), .second, .val (.double (FP.i2d p6)), .second, .val (.int (2 : Int32)), .val (.int (3 : Int32)), .val (.ref b_20), .val (.ref b_20)] [(.int (0 : Int32))])) _
          refine XS.ifYes X22.here hx rfl (pc0 := 266) (pc' := 271) rfl (hb hby at_266) rfl ((if0 _ _).trans (teq ((by decide) : (0 : Int32) = (0 : Int32))).1) (by decide) (by decide) ?_
          show Steps p.tables e below (T22.setTop (mkF m 271 #[.val (.int p1), .val (.int p2), .val (.int p3), .val (.int p4), .val (.int p5), .val (.int p6), .val (.double (FP.i2d p3)), .second, .val (.double (FP.i2d p4)), .second, .val (.double (FP.i2d p5)), .second, .val (.double (FP.i2d p6)), .second, .val (.int (2 : Int32)), .val (.int (3 : Int32)), .val (.ref b_20), .val (.ref b_20)] [])) _
          refine XS.iload X22.here hx rfl (hb hby at_271) rfl ?_
          show Steps p.tables e below (T22.setTop (mkF m 273 #[.val (.int p1), .val (.int p2), .val (.int p3), .val (.int p4), .val (.int p5), .val (.int p6), .val (.double (FP.i2d p3)), .second, .val (.double (FP.i2d p4)), .second, .val (.double (FP.i2d p5)), .second, .val (.double (FP.i2d p6)), .second, .val (.int (2 : Int32)), .val (.int (3 : Int32)), .val (.ref b_20), .val (.ref b_20)] [(.int (3 : Int32))])) _
          refine XS.iconst X22.here hx rfl (hb hby at_273) ?_
          show Steps p.tables e below (T22.setTop (mkF m 274 #[.val (.int p1), .val (.int p2), .val (.int p3), .val (.int p4), .val (.int p5), .val (.int p6), .val (.double (FP.i2d p3)), .second, .val (.double (FP.i2d p4)), .second, .val (.double (FP.i2d p5)), .second, .val (.double (FP.i2d p6)), .second, .val (.int (2 : Int32)), .val (.int (3 : Int32)), .val (.ref b_20), .val (.ref b_20)] [(.int (2 : Int32)), (.int (3 : Int32))])) _
          refine XS.icmpNo X22.here hx rfl (hb hby at_274) rfl (tlt ((by decide) : (2 : Int32) < (3 : Int32))).2.2.2 ?_
          show Steps p.tables e below (T22.setTop (mkF m 277 #[.val (.int p1), .val (.int p2), .val (.int p3), .val (.int p4), .val (.int p5), .val (.int p6), .val (.double (FP.i2d p3)), .second, .val (.double (FP.i2d p4)), .second, .val (.double (FP.i2d p5)), .second, .val (.double (FP.i2d p6)), .second, .val (.int (2 : Int32)), .val (.int (3 : Int32)), .val (.ref b_20), .val (.ref b_20)] [])) _
          refine XS.aload X22.here hx rfl (hb hby at_277) rfl rfl ?_
          show Steps p.tables e below (T22.setTop (mkF m 279 #[.val (.int p1), .val (.int p2), .val (.int p3), .val (.int p4), .val (.int p5), .val (.int p6), .val (.double (FP.i2d p3)), .second, .val (.double (FP.i2d p4)), .second, .val (.double (FP.i2d p5)), .second, .val (.double (FP.i2d p6)), .second, .val (.int (2 : Int32)), .val (.int (3 : Int32)), .val (.ref b_20), .val (.ref b_20)] [(.ref b_20)])) _
          refine XS.iconst X22.here hx rfl (hb hby at_279) ?_
          show Steps p.tables e below (T22.setTop (mkF m 280 #[.val (.int p1), .val (.int p2), .val (.int p3), .val (.int p4), .val (.int p5), .val (.int p6), .val (.double (FP.i2d p3)), .second, .val (.double (FP.i2d p4)), .second, .val (.double (FP.i2d p5)), .second, .val (.double (FP.i2d p6)), .second, .val (.int (2 : Int32)), .val (.int (3 : Int32)), .val (.ref b_20), .val (.ref b_20)] [(.int (2 : Int32)), (.ref b_20)])) _
          refine X22.daload hx (j := (2 : Int32)) (v := (.double (FP.i2d p5))) (by rw [e22]; exact Ar30.1) (State.isArrayOf_alike hZ.alike Ar30.2.1) Ar30.2.2 in31 at32 (g := (mkF m 280 #[.val (.int p1), .val (.int p2), .val (.int p3), .val (.int p4), .val (.int p5), .val (.int p6), .val (.double (FP.i2d p3)), .second, .val (.double (FP.i2d p4)), .second, .val (.double (FP.i2d p5)), .second, .val (.double (FP.i2d p6)), .second, .val (.int (2 : Int32)), .val (.int (3 : Int32)), .val (.ref b_20), .val (.ref b_20)] [(.int (2 : Int32)), (.ref b_20)])) rfl rfl (hb hby at_280) _ ?_
          show Steps p.tables e below (T22.setTop (mkF m 281 #[.val (.int p1), .val (.int p2), .val (.int p3), .val (.int p4), .val (.int p5), .val (.int p6), .val (.double (FP.i2d p3)), .second, .val (.double (FP.i2d p4)), .second, .val (.double (FP.i2d p5)), .second, .val (.double (FP.i2d p6)), .second, .val (.int (2 : Int32)), .val (.int (3 : Int32)), .val (.ref b_20), .val (.ref b_20)] [(.double (FP.i2d p5))])) _
          refine XS.dload X22.here hx rfl (hb hby at_281) rfl ?_
          show Steps p.tables e below (T22.setTop (mkF m 283 #[.val (.int p1), .val (.int p2), .val (.int p3), .val (.int p4), .val (.int p5), .val (.int p6), .val (.double (FP.i2d p3)), .second, .val (.double (FP.i2d p4)), .second, .val (.double (FP.i2d p5)), .second, .val (.double (FP.i2d p6)), .second, .val (.int (2 : Int32)), .val (.int (3 : Int32)), .val (.ref b_20), .val (.ref b_20)] [(.double (FP.i2d p5)), (.double (FP.i2d p5))])) _
          refine XS.dcmpS X22.here hx rfl (hb hby at_283) rfl (v := (0 : Int32)) (dcmpV_self (Fl.i2d_fin _).noNaN .l) ?_
          show Steps p.tables e below (T22.setTop (mkF m 284 #[.val (.int p1), .val (.int p2), .val (.int p3), .val (.int p4), .val (.int p5), .val (.int p6), .val (.double (FP.i2d p3)), .second, .val (.double (FP.i2d p4)), .second, .val (.double (FP.i2d p5)), .second, .val (.double (FP.i2d p6)), .second, .val (.int (2 : Int32)), .val (.int (3 : Int32)), .val (.ref b_20), .val (.ref b_20)] [(.int (0 : Int32))])) _
          refine XS.ifYes X22.here hx rfl (pc0 := 284) (pc' := 289) rfl (hb hby at_284) rfl ((if0 _ _).trans (teq ((by decide) : (0 : Int32) = (0 : Int32))).1) (by decide) (by decide) ?_
          show Steps p.tables e below (T22.setTop (mkF m 289 #[.val (.int p1), .val (.int p2), .val (.int p3), .val (.int p4), .val (.int p5), .val (.int p6), .val (.double (FP.i2d p3)), .second, .val (.double (FP.i2d p4)), .second, .val (.double (FP.i2d p5)), .second, .val (.double (FP.i2d p6)), .second, .val (.int (2 : Int32)), .val (.int (3 : Int32)), .val (.ref b_20), .val (.ref b_20)] [])) _
          refine XS.iload X22.here hx rfl (hb hby at_289) rfl ?_
          show Steps p.tables e below (T22.setTop (mkF m 291 #[.val (.int p1), .val (.int p2), .val (.int p3), .val (.int p4), .val (.int p5), .val (.int p6), .val (.double (FP.i2d p3)), .second, .val (.double (FP.i2d p4)), .second, .val (.double (FP.i2d p5)), .second, .val (.double (FP.i2d p6)), .second, .val (.int (2 : Int32)), .val (.int (3 : Int32)), .val (.ref b_20), .val (.ref b_20)] [(.int (3 : Int32))])) _
          refine XS.iconst X22.here hx rfl (hb hby at_291) ?_
          show Steps p.tables e below (T22.setTop (mkF m 292 #[.val (.int p1), .val (.int p2), .val (.int p3), .val (.int p4), .val (.int p5), .val (.int p6), .val (.double (FP.i2d p3)), .second, .val (.double (FP.i2d p4)), .second, .val (.double (FP.i2d p5)), .second, .val (.double (FP.i2d p6)), .second, .val (.int (2 : Int32)), .val (.int (3 : Int32)), .val (.ref b_20), .val (.ref b_20)] [(.int (3 : Int32)), (.int (3 : Int32))])) _
          refine XS.icmpYes X22.here hx rfl (pc0 := 292) (pc' := 307) rfl (hb hby at_292) rfl (flt ((by decide) : ¬ ((3 : Int32) < (3 : Int32)))).2.2.2 (by decide) (by decide) ?_
          show Steps p.tables e below (T22.setTop (mkF m 307 #[.val (.int p1), .val (.int p2), .val (.int p3), .val (.int p4), .val (.int p5), .val (.int p6), .val (.double (FP.i2d p3)), .second, .val (.double (FP.i2d p4)), .second, .val (.double (FP.i2d p5)), .second, .val (.double (FP.i2d p6)), .second, .val (.int (2 : Int32)), .val (.int (3 : Int32)), .val (.ref b_20), .val (.ref b_20)] [])) _
          refine XS.iconst X22.here hx rfl (hb hby at_307) ?_
          exact kt)
      obtain ⟨fs, hr, hrun, hended, hW, hsame⟩ := X22.leave (v := some (.int (1 : Int32))) (fun h => by rw [Bd.returns] at h; cases h)
      refine ⟨_, _, pre33 _ ?_, hrun, hended, _, _, rfl, ?_, ⟨_, rfl⟩, hW, hsame.mono (by decide) (by decide)⟩
      · show Steps p.tables e below (T22.setTop (mkF m 308 #[.val (.int p1), .val (.int p2), .val (.int p3), .val (.int p4), .val (.int p5), .val (.int p6), .val (.double (FP.i2d p3)), .second, .val (.double (FP.i2d p4)), .second, .val (.double (FP.i2d p5)), .second, .val (.double (FP.i2d p6)), .second, .val (.int (2 : Int32)), .val (.int (3 : Int32)), .val (.ref b_20), .val (.ref b_20)] [(.int (1 : Int32))])) _
        exact retN X22 hx (t := .boolean) Bd.returns (by simp) (hb hby at_308) hr
      · show Q0 Z p1 p2 p3 p4 p5 p6 h0 n0 _ T22.heap _
        rw [e22]
        exact ⟨rfl, N22⟩
    · skip
      obtain ⟨_, _, ⟨T34, L34, kk34, nn34⟩, -, X34, ⟨Lc34, hQ34, l34, y34, z34⟩, st34⟩ := Jvm.LawKit.callS X0 hx (y := (⟨"com/example/manyfront/manyfront/cli/ReferencePointFitPinLaw", "make", "(IDDDD)[D"⟩ : MethodName)) hown (mvT hZ (hw _ (List.mem_of_getElem? (i := 0) rfl))) (mvT hZ (hw _ (List.mem_of_getElem? (i := 1) rfl))) (mvT hZ (hw _ (List.mem_of_getElem? (i := 2) rfl))) (mvT hZ (hw _ (List.mem_of_getElem? (i := 3) rfl))) (by decide) (backOf (W := 0) (rmmake4 l Z a0 hw [] (FP.i2d p3) (FP.i2d p4) (FP.i2d p5) (FP.i2d p6) h0 n0 Z0 ) hZ (hw _ (List.mem_of_getElem? (i := 3) rfl)) (hw _ (List.mem_of_getElem? (i := 2) rfl)) (by decide) (by decide)) (g := (mkF m 203 #[.val (.int p1), .val (.int p2), .val (.int p3), .val (.int p4), .val (.int p5), .val (.int p6), .val (.double (FP.i2d p3)), .second, .val (.double (FP.i2d p4)), .second, .val (.double (FP.i2d p5)), .second, .val (.double (FP.i2d p6)), .second, .val (.int (3 : Int32)), .val (.int (4 : Int32)), .unset, .unset] [(.double (FP.i2d p6)), (.double (FP.i2d p5)), (.double (FP.i2d p4)), (.double (FP.i2d p3)), (.int (4 : Int32))])) rfl (by rw [hml]; rfl) (argsL := [(.int (4 : Int32)), (.double (FP.i2d p3)), (.double (FP.i2d p4)), (.double (FP.i2d p5)), (.double (FP.i2d p6))]) (rest := []) (lenOf pd__28IDDDD_29_5bD rfl) rfl (by show 2 * 0 + _ ≤ _; exact Nat.le_of_eq rfl) (hb hby at_203) (fun _ _ => ⟨rfl, e0, (by decide : 0 + 1 ≤ _), (by decide : 0 + 4 ≤ _)⟩)
      dsimp only [Pt.U, Pt.locs, Pt.cells, Pt.slots] at X34 l34 y34 z34 st34 hQ34
      subst l34 y34 z34
      obtain ⟨b_34, kb_34, rfl, N34q, K34, x34_0, x34_1⟩ := hQ34
      have N34 := Fr.app N0 N34q
      have g_b_34 : n0 ≤ b_34 := Nat.le_trans Z0 x34_0
      have z35 : n0 ≤ T34.heap.size := Nat.le_trans Z0 K34.1
      obtain ⟨_, _, ⟨T36, L36, kk36, nn36⟩, -, X36, ⟨Lc36, hQ36, l36, y36, z36⟩, st36⟩ := Jvm.LawKit.callS X34 hx (y := (⟨"com/example/manyfront/manyfront/cli/ReferencePoint", "fit", "([DI)[D"⟩ : MethodName)) hown (mvT hZ (hw _ (List.mem_of_getElem? (i := 5) rfl))) (mvT hZ (hw _ (List.mem_of_getElem? (i := 6) rfl))) (mvT hZ (hw _ (List.mem_of_getElem? (i := 7) rfl))) (mvT hZ (hw _ (List.mem_of_getElem? (i := 8) rfl))) (by decide) (backOf (W := 0) (rmfitS4 l Z a0 hw [] b_34 (FP.i2d p3) (FP.i2d p4) (FP.i2d p5) (FP.i2d p6) kb_34 T34.heap n0 z35 x34_1) hZ (hw _ (List.mem_of_getElem? (i := 8) rfl)) (hw _ (List.mem_of_getElem? (i := 7) rfl)) (by decide) (by decide)) (g := (mkF m 212 #[.val (.int p1), .val (.int p2), .val (.int p3), .val (.int p4), .val (.int p5), .val (.int p6), .val (.double (FP.i2d p3)), .second, .val (.double (FP.i2d p4)), .second, .val (.double (FP.i2d p5)), .second, .val (.double (FP.i2d p6)), .second, .val (.int (3 : Int32)), .val (.int (4 : Int32)), .val (.ref b_34), .unset] [(.int (4 : Int32)), (.ref b_34)])) rfl (by rw [hml]; rfl) (argsL := [(.ref b_34), (.int (4 : Int32))]) (rest := []) (lenOf pd__28_5bDI_29_5bD rfl) rfl (by show 2 * 0 + _ ≤ _; exact Nat.le_of_eq rfl) (hb hby at_212) (fun _ _ => ⟨rfl, rfl, (by decide : 1 + 0 ≤ _), (by decide : 4 + 0 ≤ _)⟩)
      dsimp only [Pt.U, Pt.locs, Pt.cells, Pt.slots] at X36 l36 y36 z36 st36 hQ36
      subst l36 y36 z36
      obtain ⟨rfl, N36q, e36⟩ := hQ36
      have N36 := Fr.app N34 N36q
      obtain ⟨cl37, Ar37, Q37, S37, M37, H37, G37⟩ := id x34_1
      obtain ⟨cl38, Ar38, Q38, S38, M38, H38, G38⟩ := id x34_1
      have in39 : ¬ ((0 : Int32) < 0 ∨ cl38.slots.size ≤ ((0 : Int32)).toNatClampNeg) := inb_of S38 ⟨by decide, by decide⟩
      have at40 : cl38.slots[((0 : Int32)).toNatClampNeg]? = some (.double (FP.i2d p3)) := H38 0 (by rw [S38]; decide)
      obtain ⟨cl41, Ar41, Q41, S41, M41, H41, G41⟩ := id x34_1
      have in42 : ¬ ((1 : Int32) < 0 ∨ cl41.slots.size ≤ ((1 : Int32)).toNatClampNeg) := inb_of S41 ⟨by decide, by decide⟩
      have at43 : cl41.slots[((1 : Int32)).toNatClampNeg]? = some (.double (FP.i2d p4)) := H41 1 (by rw [S41]; decide)
      obtain ⟨cl44, Ar44, Q44, S44, M44, H44, G44⟩ := id x34_1
      have in45 : ¬ ((2 : Int32) < 0 ∨ cl44.slots.size ≤ ((2 : Int32)).toNatClampNeg) := inb_of S44 ⟨by decide, by decide⟩
      have at46 : cl44.slots[((2 : Int32)).toNatClampNeg]? = some (.double (FP.i2d p5)) := H44 2 (by rw [S44]; decide)
      obtain ⟨cl47, Ar47, Q47, S47, M47, H47, G47⟩ := id x34_1
      have in48 : ¬ ((3 : Int32) < 0 ∨ cl47.slots.size ≤ ((3 : Int32)).toNatClampNeg) := inb_of S47 ⟨by decide, by decide⟩
      have at49 : cl47.slots[((3 : Int32)).toNatClampNeg]? = some (.double (FP.i2d p6)) := H47 3 (by rw [S47]; decide)
      have pre50 : ∀ t, Steps p.tables e below (T36.setTop (mkF m 308 #[.val (.int p1), .val (.int p2), .val (.int p3), .val (.int p4), .val (.int p5), .val (.int p6), .val (.double (FP.i2d p3)), .second, .val (.double (FP.i2d p4)), .second, .val (.double (FP.i2d p5)), .second, .val (.double (FP.i2d p6)), .second, .val (.int (3 : Int32)), .val (.int (4 : Int32)), .val (.ref b_34), .val (.ref b_34)] [(.int (1 : Int32))])) t → Steps p.tables e below (s₁.setTop (entryFrame m #[(.int p1), (.int p2), (.int p3), (.int p4), (.int p5), (.int p6)] maxLocals)) t := fun t kt => pre3 t (by
          show Steps p.tables e below (s₁.setTop (mkF m 173 #[.val (.int p1), .val (.int p2), .val (.int p3), .val (.int p4), .val (.int p5), .val (.int p6), .val (.double (FP.i2d p3)), .second, .val (.double (FP.i2d p4)), .second, .val (.double (FP.i2d p5)), .second, .val (.double (FP.i2d p6)), .second, .unset, .unset, .unset, .unset] [])) _
          refine XS.iloadN X0.here hx rfl (hb hby at_173) rfl ?_
          show Steps p.tables e below (s₁.setTop (mkF m 174 #[.val (.int p1), .val (.int p2), .val (.int p3), .val (.int p4), .val (.int p5), .val (.int p6), .val (.double (FP.i2d p3)), .second, .val (.double (FP.i2d p4)), .second, .val (.double (FP.i2d p5)), .second, .val (.double (FP.i2d p6)), .second, .unset, .unset, .unset, .unset] [(.int p2)])) _
          refine XS.iconst X0.here hx rfl (hb hby at_174) ?_
          show Steps p.tables e below (s₁.setTop (mkF m 175 #[.val (.int p1), .val (.int p2), .val (.int p3), .val (.int p4), .val (.int p5), .val (.int p6), .val (.double (FP.i2d p3)), .second, .val (.double (FP.i2d p4)), .second, .val (.double (FP.i2d p5)), .second, .val (.double (FP.i2d p6)), .second, .unset, .unset, .unset, .unset] [(.int (3 : Int32)), (.int p2)])) _
          refine XS.iand X0.here hx rfl (hb hby at_175) rfl ?_
          show Steps p.tables e below (s₁.setTop (mkF m 176 #[.val (.int p1), .val (.int p2), .val (.int p3), .val (.int p4), .val (.int p5), .val (.int p6), .val (.double (FP.i2d p3)), .second, .val (.double (FP.i2d p4)), .second, .val (.double (FP.i2d p5)), .second, .val (.double (FP.i2d p6)), .second, .unset, .unset, .unset, .unset] [(.int (p2 &&& (3 : Int32)))])) _
          rw [hk]
          show Steps p.tables e below (s₁.setTop (mkF m 176 #[.val (.int p1), .val (.int p2), .val (.int p3), .val (.int p4), .val (.int p5), .val (.int p6), .val (.double (FP.i2d p3)), .second, .val (.double (FP.i2d p4)), .second, .val (.double (FP.i2d p5)), .second, .val (.double (FP.i2d p6)), .second, .unset, .unset, .unset, .unset] [(.int (3 : Int32))])) _
          refine XS.istore X0.here hx rfl (hb hby at_176) rfl (l' := #[.val (.int p1), .val (.int p2), .val (.int p3), .val (.int p4), .val (.int p5), .val (.int p6), .val (.double (FP.i2d p3)), .second, .val (.double (FP.i2d p4)), .second, .val (.double (FP.i2d p5)), .second, .val (.double (FP.i2d p6)), .second, .val (.int (3 : Int32)), .unset, .unset, .unset]) rfl ?_
          show Steps p.tables e below (s₁.setTop (mkF m 178 #[.val (.int p1), .val (.int p2), .val (.int p3), .val (.int p4), .val (.int p5), .val (.int p6), .val (.double (FP.i2d p3)), .second, .val (.double (FP.i2d p4)), .second, .val (.double (FP.i2d p5)), .second, .val (.double (FP.i2d p6)), .second, .val (.int (3 : Int32)), .unset, .unset, .unset] [])) _
          refine XS.iload X0.here hx rfl (hb hby at_178) rfl ?_
          show Steps p.tables e below (s₁.setTop (mkF m 180 #[.val (.int p1), .val (.int p2), .val (.int p3), .val (.int p4), .val (.int p5), .val (.int p6), .val (.double (FP.i2d p3)), .second, .val (.double (FP.i2d p4)), .second, .val (.double (FP.i2d p5)), .second, .val (.double (FP.i2d p6)), .second, .val (.int (3 : Int32)), .unset, .unset, .unset] [(.int (3 : Int32))])) _
          refine XS.ifYes X0.here hx rfl (pc0 := 180) (pc' := 187) rfl (hb hby at_180) rfl ((if0 _ _).trans (feq ((by decide) : ¬ ((3 : Int32) = (0 : Int32)))).2) (by decide) (by decide) ?_
          show Steps p.tables e below (s₁.setTop (mkF m 187 #[.val (.int p1), .val (.int p2), .val (.int p3), .val (.int p4), .val (.int p5), .val (.int p6), .val (.double (FP.i2d p3)), .second, .val (.double (FP.i2d p4)), .second, .val (.double (FP.i2d p5)), .second, .val (.double (FP.i2d p6)), .second, .val (.int (3 : Int32)), .unset, .unset, .unset] [])) _
          refine XS.iload X0.here hx rfl (hb hby at_187) rfl ?_
          show Steps p.tables e below (s₁.setTop (mkF m 189 #[.val (.int p1), .val (.int p2), .val (.int p3), .val (.int p4), .val (.int p5), .val (.int p6), .val (.double (FP.i2d p3)), .second, .val (.double (FP.i2d p4)), .second, .val (.double (FP.i2d p5)), .second, .val (.double (FP.i2d p6)), .second, .val (.int (3 : Int32)), .unset, .unset, .unset] [(.int (3 : Int32))])) _
          refine XS.iconst X0.here hx rfl (hb hby at_189) ?_
          show Steps p.tables e below (s₁.setTop (mkF m 190 #[.val (.int p1), .val (.int p2), .val (.int p3), .val (.int p4), .val (.int p5), .val (.int p6), .val (.double (FP.i2d p3)), .second, .val (.double (FP.i2d p4)), .second, .val (.double (FP.i2d p5)), .second, .val (.double (FP.i2d p6)), .second, .val (.int (3 : Int32)), .unset, .unset, .unset] [(.int (1 : Int32)), (.int (3 : Int32))])) _
          refine XS.iadd X0.here hx rfl (hb hby at_190) rfl ?_
          show Steps p.tables e below (s₁.setTop (mkF m 191 #[.val (.int p1), .val (.int p2), .val (.int p3), .val (.int p4), .val (.int p5), .val (.int p6), .val (.double (FP.i2d p3)), .second, .val (.double (FP.i2d p4)), .second, .val (.double (FP.i2d p5)), .second, .val (.double (FP.i2d p6)), .second, .val (.int (3 : Int32)), .unset, .unset, .unset] [(.int (4 : Int32))])) _
          refine XS.istore X0.here hx rfl (hb hby at_191) rfl (l' := #[.val (.int p1), .val (.int p2), .val (.int p3), .val (.int p4), .val (.int p5), .val (.int p6), .val (.double (FP.i2d p3)), .second, .val (.double (FP.i2d p4)), .second, .val (.double (FP.i2d p5)), .second, .val (.double (FP.i2d p6)), .second, .val (.int (3 : Int32)), .val (.int (4 : Int32)), .unset, .unset]) rfl ?_
          show Steps p.tables e below (s₁.setTop (mkF m 193 #[.val (.int p1), .val (.int p2), .val (.int p3), .val (.int p4), .val (.int p5), .val (.int p6), .val (.double (FP.i2d p3)), .second, .val (.double (FP.i2d p4)), .second, .val (.double (FP.i2d p5)), .second, .val (.double (FP.i2d p6)), .second, .val (.int (3 : Int32)), .val (.int (4 : Int32)), .unset, .unset] [])) _
          refine XS.iload X0.here hx rfl (hb hby at_193) rfl ?_
          show Steps p.tables e below (s₁.setTop (mkF m 195 #[.val (.int p1), .val (.int p2), .val (.int p3), .val (.int p4), .val (.int p5), .val (.int p6), .val (.double (FP.i2d p3)), .second, .val (.double (FP.i2d p4)), .second, .val (.double (FP.i2d p5)), .second, .val (.double (FP.i2d p6)), .second, .val (.int (3 : Int32)), .val (.int (4 : Int32)), .unset, .unset] [(.int (4 : Int32))])) _
          refine XS.dload X0.here hx rfl (hb hby at_195) rfl ?_
          show Steps p.tables e below (s₁.setTop (mkF m 197 #[.val (.int p1), .val (.int p2), .val (.int p3), .val (.int p4), .val (.int p5), .val (.int p6), .val (.double (FP.i2d p3)), .second, .val (.double (FP.i2d p4)), .second, .val (.double (FP.i2d p5)), .second, .val (.double (FP.i2d p6)), .second, .val (.int (3 : Int32)), .val (.int (4 : Int32)), .unset, .unset] [(.double (FP.i2d p3)), (.int (4 : Int32))])) _
          refine XS.dload X0.here hx rfl (hb hby at_197) rfl ?_
          show Steps p.tables e below (s₁.setTop (mkF m 199 #[.val (.int p1), .val (.int p2), .val (.int p3), .val (.int p4), .val (.int p5), .val (.int p6), .val (.double (FP.i2d p3)), .second, .val (.double (FP.i2d p4)), .second, .val (.double (FP.i2d p5)), .second, .val (.double (FP.i2d p6)), .second, .val (.int (3 : Int32)), .val (.int (4 : Int32)), .unset, .unset] [(.double (FP.i2d p4)), (.double (FP.i2d p3)), (.int (4 : Int32))])) _
          refine XS.dload X0.here hx rfl (hb hby at_199) rfl ?_
          show Steps p.tables e below (s₁.setTop (mkF m 201 #[.val (.int p1), .val (.int p2), .val (.int p3), .val (.int p4), .val (.int p5), .val (.int p6), .val (.double (FP.i2d p3)), .second, .val (.double (FP.i2d p4)), .second, .val (.double (FP.i2d p5)), .second, .val (.double (FP.i2d p6)), .second, .val (.int (3 : Int32)), .val (.int (4 : Int32)), .unset, .unset] [(.double (FP.i2d p5)), (.double (FP.i2d p4)), (.double (FP.i2d p3)), (.int (4 : Int32))])) _
          refine XS.dload X0.here hx rfl (hb hby at_201) rfl ?_
          show Steps p.tables e below (s₁.setTop (mkF m 203 #[.val (.int p1), .val (.int p2), .val (.int p3), .val (.int p4), .val (.int p5), .val (.int p6), .val (.double (FP.i2d p3)), .second, .val (.double (FP.i2d p4)), .second, .val (.double (FP.i2d p5)), .second, .val (.double (FP.i2d p6)), .second, .val (.int (3 : Int32)), .val (.int (4 : Int32)), .unset, .unset] [(.double (FP.i2d p6)), (.double (FP.i2d p5)), (.double (FP.i2d p4)), (.double (FP.i2d p3)), (.int (4 : Int32))])) _
          refine st34 _ ?_
          show Steps p.tables e below (T34.setTop (mkF m 206 #[.val (.int p1), .val (.int p2), .val (.int p3), .val (.int p4), .val (.int p5), .val (.int p6), .val (.double (FP.i2d p3)), .second, .val (.double (FP.i2d p4)), .second, .val (.double (FP.i2d p5)), .second, .val (.double (FP.i2d p6)), .second, .val (.int (3 : Int32)), .val (.int (4 : Int32)), .unset, .unset] [(.ref b_34)])) _
          refine XS.astore X34.here hx rfl (hb hby at_206) rfl rfl (l' := #[.val (.int p1), .val (.int p2), .val (.int p3), .val (.int p4), .val (.int p5), .val (.int p6), .val (.double (FP.i2d p3)), .second, .val (.double (FP.i2d p4)), .second, .val (.double (FP.i2d p5)), .second, .val (.double (FP.i2d p6)), .second, .val (.int (3 : Int32)), .val (.int (4 : Int32)), .val (.ref b_34), .unset]) rfl ?_
          show Steps p.tables e below (T34.setTop (mkF m 208 #[.val (.int p1), .val (.int p2), .val (.int p3), .val (.int p4), .val (.int p5), .val (.int p6), .val (.double (FP.i2d p3)), .second, .val (.double (FP.i2d p4)), .second, .val (.double (FP.i2d p5)), .second, .val (.double (FP.i2d p6)), .second, .val (.int (3 : Int32)), .val (.int (4 : Int32)), .val (.ref b_34), .unset] [])) _
          refine XS.aload X34.here hx rfl (hb hby at_208) rfl rfl ?_
          show Steps p.tables e below (T34.setTop (mkF m 210 #[.val (.int p1), .val (.int p2), .val (.int p3), .val (.int p4), .val (.int p5), .val (.int p6), .val (.double (FP.i2d p3)), .second, .val (.double (FP.i2d p4)), .second, .val (.double (FP.i2d p5)), .second, .val (.double (FP.i2d p6)), .second, .val (.int (3 : Int32)), .val (.int (4 : Int32)), .val (.ref b_34), .unset] [(.ref b_34)])) _
          refine XS.iload X34.here hx rfl (hb hby at_210) rfl ?_
          show Steps p.tables e below (T34.setTop (mkF m 212 #[.val (.int p1), .val (.int p2), .val (.int p3), .val (.int p4), .val (.int p5), .val (.int p6), .val (.double (FP.i2d p3)), .second, .val (.double (FP.i2d p4)), .second, .val (.double (FP.i2d p5)), .second, .val (.double (FP.i2d p6)), .second, .val (.int (3 : Int32)), .val (.int (4 : Int32)), .val (.ref b_34), .unset] [(.int (4 : Int32)), (.ref b_34)])) _
          refine st36 _ ?_
          show Steps p.tables e below (T36.setTop (mkF m 215 #[.val (.int p1), .val (.int p2), .val (.int p3), .val (.int p4), .val (.int p5), .val (.int p6), .val (.double (FP.i2d p3)), .second, .val (.double (FP.i2d p4)), .second, .val (.double (FP.i2d p5)), .second, .val (.double (FP.i2d p6)), .second, .val (.int (3 : Int32)), .val (.int (4 : Int32)), .val (.ref b_34), .unset] [(.ref b_34)])) _
          refine XS.astore X36.here hx rfl (hb hby at_215) rfl rfl (l' := #[.val (.int p1), .val (.int p2), .val (.int p3), .val (.int p4), .val (.int p5), .val (.int p6), .val (.double (FP.i2d p3)), .second, .val (.double (FP.i2d p4)), .second, .val (.double (FP.i2d p5)), .second, .val (.double (FP.i2d p6)), .second, .val (.int (3 : Int32)), .val (.int (4 : Int32)), .val (.ref b_34), .val (.ref b_34)]) rfl ?_
          show Steps p.tables e below (T36.setTop (mkF m 217 #[.val (.int p1), .val (.int p2), .val (.int p3), .val (.int p4), .val (.int p5), .val (.int p6), .val (.double (FP.i2d p3)), .second, .val (.double (FP.i2d p4)), .second, .val (.double (FP.i2d p5)), .second, .val (.double (FP.i2d p6)), .second, .val (.int (3 : Int32)), .val (.int (4 : Int32)), .val (.ref b_34), .val (.ref b_34)] [])) _
          refine XS.aload X36.here hx rfl (hb hby at_217) rfl rfl ?_
          show Steps p.tables e below (T36.setTop (mkF m 219 #[.val (.int p1), .val (.int p2), .val (.int p3), .val (.int p4), .val (.int p5), .val (.int p6), .val (.double (FP.i2d p3)), .second, .val (.double (FP.i2d p4)), .second, .val (.double (FP.i2d p5)), .second, .val (.double (FP.i2d p6)), .second, .val (.int (3 : Int32)), .val (.int (4 : Int32)), .val (.ref b_34), .val (.ref b_34)] [(.ref b_34)])) _
          refine XS.aload X36.here hx rfl (hb hby at_219) rfl rfl ?_
          show Steps p.tables e below (T36.setTop (mkF m 221 #[.val (.int p1), .val (.int p2), .val (.int p3), .val (.int p4), .val (.int p5), .val (.int p6), .val (.double (FP.i2d p3)), .second, .val (.double (FP.i2d p4)), .second, .val (.double (FP.i2d p5)), .second, .val (.double (FP.i2d p6)), .second, .val (.int (3 : Int32)), .val (.int (4 : Int32)), .val (.ref b_34), .val (.ref b_34)] [(.ref b_34), (.ref b_34)])) _
          refine Jvm.RoadKit.acmp (g := (mkF m 221 #[.val (.int p1), .val (.int p2), .val (.int p3), .val (.int p4), .val (.int p5), .val (.int p6), .val (.double (FP.i2d p3)), .second, .val (.double (FP.i2d p4)), .second, .val (.double (FP.i2d p5)), .second, .val (.double (FP.i2d p6)), .second, .val (.int (3 : Int32)), .val (.int (4 : Int32)), .val (.ref b_34), .val (.ref b_34)] [(.ref b_34), (.ref b_34)])) X36 hx rfl rfl rfl (pc0 := 221) (pc' := 226) (same := true) rfl (hb hby at_221) rfl (decide_eq_true rfl) (by decide) (by decide) ?_
          show Steps p.tables e below (T36.setTop (mkF m 226 #[.val (.int p1), .val (.int p2), .val (.int p3), .val (.int p4), .val (.int p5), .val (.int p6), .val (.double (FP.i2d p3)), .second, .val (.double (FP.i2d p4)), .second, .val (.double (FP.i2d p5)), .second, .val (.double (FP.i2d p6)), .second, .val (.int (3 : Int32)), .val (.int (4 : Int32)), .val (.ref b_34), .val (.ref b_34)] [])) _
          refine XS.aload X36.here hx rfl (hb hby at_226) rfl rfl ?_
          show Steps p.tables e below (T36.setTop (mkF m 228 #[.val (.int p1), .val (.int p2), .val (.int p3), .val (.int p4), .val (.int p5), .val (.int p6), .val (.double (FP.i2d p3)), .second, .val (.double (FP.i2d p4)), .second, .val (.double (FP.i2d p5)), .second, .val (.double (FP.i2d p6)), .second, .val (.int (3 : Int32)), .val (.int (4 : Int32)), .val (.ref b_34), .val (.ref b_34)] [(.ref b_34)])) _
          refine X36.arraylength hx (cell := cl37) (by rw [e36]; exact Ar37.1) (State.isArrayOf_alike hZ.alike Ar37.2.1) (g := (mkF m 228 #[.val (.int p1), .val (.int p2), .val (.int p3), .val (.int p4), .val (.int p5), .val (.int p6), .val (.double (FP.i2d p3)), .second, .val (.double (FP.i2d p4)), .second, .val (.double (FP.i2d p5)), .second, .val (.double (FP.i2d p6)), .second, .val (.int (3 : Int32)), .val (.int (4 : Int32)), .val (.ref b_34), .val (.ref b_34)] [(.ref b_34)])) rfl rfl (hb hby at_228) _ ?_
          rw [len_of S37 M37]
          show Steps p.tables e below (T36.setTop (mkF m 229 #[.val (.int p1), .val (.int p2), .val (.int p3), .val (.int p4), .val (.int p5), .val (.int p6), .val (.double (FP.i2d p3)), .second, .val (.double (FP.i2d p4)), .second, .val (.double (FP.i2d p5)), .second, .val (.double (FP.i2d p6)), .second, .val (.int (3 : Int32)), .val (.int (4 : Int32)), .val (.ref b_34), .val (.ref b_34)] [(.int (4 : Int32))])) _
          refine XS.iload X36.here hx rfl (hb hby at_229) rfl ?_
          show Steps p.tables e below (T36.setTop (mkF m 231 #[.val (.int p1), .val (.int p2), .val (.int p3), .val (.int p4), .val (.int p5), .val (.int p6), .val (.double (FP.i2d p3)), .second, .val (.double (FP.i2d p4)), .second, .val (.double (FP.i2d p5)), .second, .val (.double (FP.i2d p6)), .second, .val (.int (3 : Int32)), .val (.int (4 : Int32)), .val (.ref b_34), .val (.ref b_34)] [(.int (4 : Int32)), (.int (4 : Int32))])) _
          refine XS.icmpYes X36.here hx rfl (pc0 := 231) (pc' := 236) rfl (hb hby at_231) rfl (teq ((by decide) : (4 : Int32) = (4 : Int32))).1 (by decide) (by decide) ?_
          show Steps p.tables e below (T36.setTop (mkF m 236 #[.val (.int p1), .val (.int p2), .val (.int p3), .val (.int p4), .val (.int p5), .val (.int p6), .val (.double (FP.i2d p3)), .second, .val (.double (FP.i2d p4)), .second, .val (.double (FP.i2d p5)), .second, .val (.double (FP.i2d p6)), .second, .val (.int (3 : Int32)), .val (.int (4 : Int32)), .val (.ref b_34), .val (.ref b_34)] [])) _
          refine XS.iload X36.here hx rfl (hb hby at_236) rfl ?_
          show Steps p.tables e below (T36.setTop (mkF m 238 #[.val (.int p1), .val (.int p2), .val (.int p3), .val (.int p4), .val (.int p5), .val (.int p6), .val (.double (FP.i2d p3)), .second, .val (.double (FP.i2d p4)), .second, .val (.double (FP.i2d p5)), .second, .val (.double (FP.i2d p6)), .second, .val (.int (3 : Int32)), .val (.int (4 : Int32)), .val (.ref b_34), .val (.ref b_34)] [(.int (4 : Int32))])) _
          refine XS.ifNo X36.here hx rfl (hb hby at_238) rfl ((if0 _ _).trans (tlt ((by decide) : (0 : Int32) < (4 : Int32))).2.2.2) ?_
          show Steps p.tables e below (T36.setTop (mkF m 241 #[.val (.int p1), .val (.int p2), .val (.int p3), .val (.int p4), .val (.int p5), .val (.int p6), .val (.double (FP.i2d p3)), .second, .val (.double (FP.i2d p4)), .second, .val (.double (FP.i2d p5)), .second, .val (.double (FP.i2d p6)), .second, .val (.int (3 : Int32)), .val (.int (4 : Int32)), .val (.ref b_34), .val (.ref b_34)] [])) _
          refine XS.aload X36.here hx rfl (hb hby at_241) rfl rfl ?_
          show Steps p.tables e below (T36.setTop (mkF m 243 #[.val (.int p1), .val (.int p2), .val (.int p3), .val (.int p4), .val (.int p5), .val (.int p6), .val (.double (FP.i2d p3)), .second, .val (.double (FP.i2d p4)), .second, .val (.double (FP.i2d p5)), .second, .val (.double (FP.i2d p6)), .second, .val (.int (3 : Int32)), .val (.int (4 : Int32)), .val (.ref b_34), .val (.ref b_34)] [(.ref b_34)])) _
          refine XS.iconst X36.here hx rfl (hb hby at_243) ?_
          show Steps p.tables e below (T36.setTop (mkF m 244 #[.val (.int p1), .val (.int p2), .val (.int p3), .val (.int p4), .val (.int p5), .val (.int p6), .val (.double (FP.i2d p3)), .second, .val (.double (FP.i2d p4)), .second, .val (.double (FP.i2d p5)), .second, .val (.double (FP.i2d p6)), .second, .val (.int (3 : Int32)), .val (.int (4 : Int32)), .val (.ref b_34), .val (.ref b_34)] [(.int (0 : Int32)), (.ref b_34)])) _
          refine X36.daload hx (j := (0 : Int32)) (v := (.double (FP.i2d p3))) (by rw [e36]; exact Ar38.1) (State.isArrayOf_alike hZ.alike Ar38.2.1) Ar38.2.2 in39 at40 (g := (mkF m 244 #[.val (.int p1), .val (.int p2), .val (.int p3), .val (.int p4), .val (.int p5), .val (.int p6), .val (.double (FP.i2d p3)), .second, .val (.double (FP.i2d p4)), .second, .val (.double (FP.i2d p5)), .second, .val (.double (FP.i2d p6)), .second, .val (.int (3 : Int32)), .val (.int (4 : Int32)), .val (.ref b_34), .val (.ref b_34)] [(.int (0 : Int32)), (.ref b_34)])) rfl rfl (hb hby at_244) _ ?_
          show Steps p.tables e below (T36.setTop (mkF m 245 #[.val (.int p1), .val (.int p2), .val (.int p3), .val (.int p4), .val (.int p5), .val (.int p6), .val (.double (FP.i2d p3)), .second, .val (.double (FP.i2d p4)), .second, .val (.double (FP.i2d p5)), .second, .val (.double (FP.i2d p6)), .second, .val (.int (3 : Int32)), .val (.int (4 : Int32)), .val (.ref b_34), .val (.ref b_34)] [(.double (FP.i2d p3))])) _
          refine XS.dload X36.here hx rfl (hb hby at_245) rfl ?_
          show Steps p.tables e below (T36.setTop (mkF m 247 #[.val (.int p1), .val (.int p2), .val (.int p3), .val (.int p4), .val (.int p5), .val (.int p6), .val (.double (FP.i2d p3)), .second, .val (.double (FP.i2d p4)), .second, .val (.double (FP.i2d p5)), .second, .val (.double (FP.i2d p6)), .second, .val (.int (3 : Int32)), .val (.int (4 : Int32)), .val (.ref b_34), .val (.ref b_34)] [(.double (FP.i2d p3)), (.double (FP.i2d p3))])) _
          refine XS.dcmpS X36.here hx rfl (hb hby at_247) rfl (v := (0 : Int32)) (dcmpV_self (Fl.i2d_fin _).noNaN .l) ?_
          show Steps p.tables e below (T36.setTop (mkF m 248 #[.val (.int p1), .val (.int p2), .val (.int p3), .val (.int p4), .val (.int p5), .val (.int p6), .val (.double (FP.i2d p3)), .second, .val (.double (FP.i2d p4)), .second, .val (.double (FP.i2d p5)), .second, .val (.double (FP.i2d p6)), .second, .val (.int (3 : Int32)), .val (.int (4 : Int32)), .val (.ref b_34), .val (.ref b_34)] [(.int (0 : Int32))])) _
          refine XS.ifYes X36.here hx rfl (pc0 := 248) (pc' := 253) rfl (hb hby at_248) rfl ((if0 _ _).trans (teq ((by decide) : (0 : Int32) = (0 : Int32))).1) (by decide) (by decide) ?_
          show Steps p.tables e below (T36.setTop (mkF m 253 #[.val (.int p1), .val (.int p2), .val (.int p3), .val (.int p4), .val (.int p5), .val (.int p6), .val (.double (FP.i2d p3)), .second, .val (.double (FP.i2d p4)), .second, .val (.double (FP.i2d p5)), .second, .val (.double (FP.i2d p6)), .second, .val (.int (3 : Int32)), .val (.int (4 : Int32)), .val (.ref b_34), .val (.ref b_34)] [])) _
          refine XS.iload X36.here hx rfl (hb hby at_253) rfl ?_
          show Steps p.tables e below (T36.setTop (mkF m 255 #[.val (.int p1), .val (.int p2), .val (.int p3), .val (.int p4), .val (.int p5), .val (.int p6), .val (.double (FP.i2d p3)), .second, .val (.double (FP.i2d p4)), .second, .val (.double (FP.i2d p5)), .second, .val (.double (FP.i2d p6)), .second, .val (.int (3 : Int32)), .val (.int (4 : Int32)), .val (.ref b_34), .val (.ref b_34)] [(.int (4 : Int32))])) _
          refine XS.iconst X36.here hx rfl (hb hby at_255) ?_
          show Steps p.tables e below (T36.setTop (mkF m 256 #[.val (.int p1), .val (.int p2), .val (.int p3), .val (.int p4), .val (.int p5), .val (.int p6), .val (.double (FP.i2d p3)), .second, .val (.double (FP.i2d p4)), .second, .val (.double (FP.i2d p5)), .second, .val (.double (FP.i2d p6)), .second, .val (.int (3 : Int32)), .val (.int (4 : Int32)), .val (.ref b_34), .val (.ref b_34)] [(.int (1 : Int32)), (.int (4 : Int32))])) _
          refine XS.icmpNo X36.here hx rfl (hb hby at_256) rfl (tlt ((by decide) : (1 : Int32) < (4 : Int32))).2.2.2 ?_
          show Steps p.tables e below (T36.setTop (mkF m 259 #[.val (.int p1), .val (.int p2), .val (.int p3), .val (.int p4), .val (.int p5), .val (.int p6), .val (.double (FP.i2d p3)), .second, .val (.double (FP.i2d p4)), .second, .val (.double (FP.i2d p5)), .second, .val (.double (FP.i2d p6)), .second, .val (.int (3 : Int32)), .val (.int (4 : Int32)), .val (.ref b_34), .val (.ref b_34)] [])) _
          refine XS.aload X36.here hx rfl (hb hby at_259) rfl rfl ?_
          show Steps p.tables e below (T36.setTop (mkF m 261 #[.val (.int p1), .val (.int p2), .val (.int p3), .val (.int p4), .val (.int p5), .val (.int p6), .val (.double (FP.i2d p3)), .second, .val (.double (FP.i2d p4)), .second, .val (.double (FP.i2d p5)), .second, .val (.double (FP.i2d p6)), .second, .val (.int (3 : Int32)), .val (.int (4 : Int32)), .val (.ref b_34), .val (.ref b_34)] [(.ref b_34)])) _
          refine XS.iconst X36.here hx rfl (hb hby at_261) ?_
          show Steps p.tables e below (T36.setTop (mkF m 262 #[.val (.int p1), .val (.int p2), .val (.int p3), .val (.int p4), .val (.int p5), .val (.int p6), .val (.double (FP.i2d p3)), .second, .val (.double (FP.i2d p4)), .second, .val (.double (FP.i2d p5)), .second, .val (.double (FP.i2d p6)), .second, .val (.int (3 : Int32)), .val (.int (4 : Int32)), .val (.ref b_34), .val (.ref b_34)] [(.int (1 : Int32)), (.ref b_34)])) _
          refine X36.daload hx (j := (1 : Int32)) (v := (.double (FP.i2d p4))) (by rw [e36]; exact Ar41.1) (State.isArrayOf_alike hZ.alike Ar41.2.1) Ar41.2.2 in42 at43 (g := (mkF m 262 #[.val (.int p1), .val (.int p2), .val (.int p3), .val (.int p4), .val (.int p5), .val (.int p6), .val (.double (FP.i2d p3)), .second, .val (.double (FP.i2d p4)), .second, .val (.double (FP.i2d p5)), .second, .val (.double (FP.i2d p6)), .second, .val (.int (3 : Int32)), .val (.int (4 : Int32)), .val (.ref b_34), .val (.ref b_34)] [(.int (1 : Int32)), (.ref b_34)])) rfl rfl (hb hby at_262) _ ?_
          show Steps p.tables e below (T36.setTop (mkF m 263 #[.val (.int p1), .val (.int p2), .val (.int p3), .val (.int p4), .val (.int p5), .val (.int p6), .val (.double (FP.i2d p3)), .second, .val (.double (FP.i2d p4)), .second, .val (.double (FP.i2d p5)), .second, .val (.double (FP.i2d p6)), .second, .val (.int (3 : Int32)), .val (.int (4 : Int32)), .val (.ref b_34), .val (.ref b_34)] [(.double (FP.i2d p4))])) _
          refine XS.dload X36.here hx rfl (hb hby at_263) rfl ?_
          show Steps p.tables e below (T36.setTop (mkF m 265 #[.val (.int p1), .val (.int p2), .val (.int p3), .val (.int p4), .val (.int p5), .val (.int p6), .val (.double (FP.i2d p3)), .second, .val (.double (FP.i2d p4)), .second, .val (.double (FP.i2d p5)), .second, .val (.double (FP.i2d p6)), .second, .val (.int (3 : Int32)), .val (.int (4 : Int32)), .val (.ref b_34), .val (.ref b_34)] [(.double (FP.i2d p4)), (.double (FP.i2d p4))])) _
          refine XS.dcmpS X36.here hx rfl (hb hby at_265) rfl (v := (0 : Int32)) (dcmpV_self (Fl.i2d_fin _).noNaN .l) ?_
          show Steps p.tables e below (T36.setTop (mkF m 266 #[.val (.int p1), .val (.int p2), .val (.int p3), .val (.int p4), .val (.int p5), .val (.int p6), .val (.double (FP.i2d p3)), .second, .val (.double (FP.i2d p4)), .second, .val (.double (FP.i2d p5)), .second, .val (.double (FP.i2d p6)), .second, .val (.int (3 : Int32)), .val (.int (4 : Int32)), .val (.ref b_34), .val (.ref b_34)] [(.int (0 : Int32))])) _
          refine XS.ifYes X36.here hx rfl (pc0 := 266) (pc' := 271) rfl (hb hby at_266) rfl ((if0 _ _).trans (teq ((by decide) : (0 : Int32) = (0 : Int32))).1) (by decide) (by decide) ?_
          show Steps p.tables e below (T36.setTop (mkF m 271 #[.val (.int p1), .val (.int p2), .val (.int p3), .val (.int p4), .val (.int p5), .val (.int p6), .val (.double (FP.i2d p3)), .second, .val (.double (FP.i2d p4)), .second, .val (.double (FP.i2d p5)), .second, .val (.double (FP.i2d p6)), .second, .val (.int (3 : Int32)), .val (.int (4 : Int32)), .val (.ref b_34), .val (.ref b_34)] [])) _
          refine XS.iload X36.here hx rfl (hb hby at_271) rfl ?_
          show Steps p.tables e below (T36.setTop (mkF m 273 #[.val (.int p1), .val (.int p2), .val (.int p3), .val (.int p4), .val (.int p5), .val (.int p6), .val (.double (FP.i2d p3)), .second, .val (.double (FP.i2d p4)), .second, .val (.double (FP.i2d p5)), .second, .val (.double (FP.i2d p6)), .second, .val (.int (3 : Int32)), .val (.int (4 : Int32)), .val (.ref b_34), .val (.ref b_34)] [(.int (4 : Int32))])) _
          refine XS.iconst X36.here hx rfl (hb hby at_273) ?_
          show Steps p.tables e below (T36.setTop (mkF m 274 #[.val (.int p1), .val (.int p2), .val (.int p3), .val (.int p4), .val (.int p5), .val (.int p6), .val (.double (FP.i2d p3)), .second, .val (.double (FP.i2d p4)), .second, .val (.double (FP.i2d p5)), .second, .val (.double (FP.i2d p6)), .second, .val (.int (3 : Int32)), .val (.int (4 : Int32)), .val (.ref b_34), .val (.ref b_34)] [(.int (2 : Int32)), (.int (4 : Int32))])) _
          refine XS.icmpNo X36.here hx rfl (hb hby at_274) rfl (tlt ((by decide) : (2 : Int32) < (4 : Int32))).2.2.2 ?_
          show Steps p.tables e below (T36.setTop (mkF m 277 #[.val (.int p1), .val (.int p2), .val (.int p3), .val (.int p4), .val (.int p5), .val (.int p6), .val (.double (FP.i2d p3)), .second, .val (.double (FP.i2d p4)), .second, .val (.double (FP.i2d p5)), .second, .val (.double (FP.i2d p6)), .second, .val (.int (3 : Int32)), .val (.int (4 : Int32)), .val (.ref b_34), .val (.ref b_34)] [])) _
          refine XS.aload X36.here hx rfl (hb hby at_277) rfl rfl ?_
          show Steps p.tables e below (T36.setTop (mkF m 279 #[.val (.int p1), .val (.int p2), .val (.int p3), .val (.int p4), .val (.int p5), .val (.int p6), .val (.double (FP.i2d p3)), .second, .val (.double (FP.i2d p4)), .second, .val (.double (FP.i2d p5)), .second, .val (.double (FP.i2d p6)), .second, .val (.int (3 : Int32)), .val (.int (4 : Int32)), .val (.ref b_34), .val (.ref b_34)] [(.ref b_34)])) _
          refine XS.iconst X36.here hx rfl (hb hby at_279) ?_
          show Steps p.tables e below (T36.setTop (mkF m 280 #[.val (.int p1), .val (.int p2), .val (.int p3), .val (.int p4), .val (.int p5), .val (.int p6), .val (.double (FP.i2d p3)), .second, .val (.double (FP.i2d p4)), .second, .val (.double (FP.i2d p5)), .second, .val (.double (FP.i2d p6)), .second, .val (.int (3 : Int32)), .val (.int (4 : Int32)), .val (.ref b_34), .val (.ref b_34)] [(.int (2 : Int32)), (.ref b_34)])) _
          refine X36.daload hx (j := (2 : Int32)) (v := (.double (FP.i2d p5))) (by rw [e36]; exact Ar44.1) (State.isArrayOf_alike hZ.alike Ar44.2.1) Ar44.2.2 in45 at46 (g := (mkF m 280 #[.val (.int p1), .val (.int p2), .val (.int p3), .val (.int p4), .val (.int p5), .val (.int p6), .val (.double (FP.i2d p3)), .second, .val (.double (FP.i2d p4)), .second, .val (.double (FP.i2d p5)), .second, .val (.double (FP.i2d p6)), .second, .val (.int (3 : Int32)), .val (.int (4 : Int32)), .val (.ref b_34), .val (.ref b_34)] [(.int (2 : Int32)), (.ref b_34)])) rfl rfl (hb hby at_280) _ ?_
          show Steps p.tables e below (T36.setTop (mkF m 281 #[.val (.int p1), .val (.int p2), .val (.int p3), .val (.int p4), .val (.int p5), .val (.int p6), .val (.double (FP.i2d p3)), .second, .val (.double (FP.i2d p4)), .second, .val (.double (FP.i2d p5)), .second, .val (.double (FP.i2d p6)), .second, .val (.int (3 : Int32)), .val (.int (4 : Int32)), .val (.ref b_34), .val (.ref b_34)] [(.double (FP.i2d p5))])) _
          refine XS.dload X36.here hx rfl (hb hby at_281) rfl ?_
          show Steps p.tables e below (T36.setTop (mkF m 283 #[.val (.int p1), .val (.int p2), .val (.int p3), .val (.int p4), .val (.int p5), .val (.int p6), .val (.double (FP.i2d p3)), .second, .val (.double (FP.i2d p4)), .second, .val (.double (FP.i2d p5)), .second, .val (.double (FP.i2d p6)), .second, .val (.int (3 : Int32)), .val (.int (4 : Int32)), .val (.ref b_34), .val (.ref b_34)] [(.double (FP.i2d p5)), (.double (FP.i2d p5))])) _
          refine XS.dcmpS X36.here hx rfl (hb hby at_283) rfl (v := (0 : Int32)) (dcmpV_self (Fl.i2d_fin _).noNaN .l) ?_
          show Steps p.tables e below (T36.setTop (mkF m 284 #[.val (.int p1), .val (.int p2), .val (.int p3), .val (.int p4), .val (.int p5), .val (.int p6), .val (.double (FP.i2d p3)), .second, .val (.double (FP.i2d p4)), .second, .val (.double (FP.i2d p5)), .second, .val (.double (FP.i2d p6)), .second, .val (.int (3 : Int32)), .val (.int (4 : Int32)), .val (.ref b_34), .val (.ref b_34)] [(.int (0 : Int32))])) _
          refine XS.ifYes X36.here hx rfl (pc0 := 284) (pc' := 289) rfl (hb hby at_284) rfl ((if0 _ _).trans (teq ((by decide) : (0 : Int32) = (0 : Int32))).1) (by decide) (by decide) ?_
          show Steps p.tables e below (T36.setTop (mkF m 289 #[.val (.int p1), .val (.int p2), .val (.int p3), .val (.int p4), .val (.int p5), .val (.int p6), .val (.double (FP.i2d p3)), .second, .val (.double (FP.i2d p4)), .second, .val (.double (FP.i2d p5)), .second, .val (.double (FP.i2d p6)), .second, .val (.int (3 : Int32)), .val (.int (4 : Int32)), .val (.ref b_34), .val (.ref b_34)] [])) _
          refine XS.iload X36.here hx rfl (hb hby at_289) rfl ?_
          show Steps p.tables e below (T36.setTop (mkF m 291 #[.val (.int p1), .val (.int p2), .val (.int p3), .val (.int p4), .val (.int p5), .val (.int p6), .val (.double (FP.i2d p3)), .second, .val (.double (FP.i2d p4)), .second, .val (.double (FP.i2d p5)), .second, .val (.double (FP.i2d p6)), .second, .val (.int (3 : Int32)), .val (.int (4 : Int32)), .val (.ref b_34), .val (.ref b_34)] [(.int (4 : Int32))])) _
          refine XS.iconst X36.here hx rfl (hb hby at_291) ?_
          show Steps p.tables e below (T36.setTop (mkF m 292 #[.val (.int p1), .val (.int p2), .val (.int p3), .val (.int p4), .val (.int p5), .val (.int p6), .val (.double (FP.i2d p3)), .second, .val (.double (FP.i2d p4)), .second, .val (.double (FP.i2d p5)), .second, .val (.double (FP.i2d p6)), .second, .val (.int (3 : Int32)), .val (.int (4 : Int32)), .val (.ref b_34), .val (.ref b_34)] [(.int (3 : Int32)), (.int (4 : Int32))])) _
          refine XS.icmpNo X36.here hx rfl (hb hby at_292) rfl (tlt ((by decide) : (3 : Int32) < (4 : Int32))).2.2.2 ?_
          show Steps p.tables e below (T36.setTop (mkF m 295 #[.val (.int p1), .val (.int p2), .val (.int p3), .val (.int p4), .val (.int p5), .val (.int p6), .val (.double (FP.i2d p3)), .second, .val (.double (FP.i2d p4)), .second, .val (.double (FP.i2d p5)), .second, .val (.double (FP.i2d p6)), .second, .val (.int (3 : Int32)), .val (.int (4 : Int32)), .val (.ref b_34), .val (.ref b_34)] [])) _
          refine XS.aload X36.here hx rfl (hb hby at_295) rfl rfl ?_
          show Steps p.tables e below (T36.setTop (mkF m 297 #[.val (.int p1), .val (.int p2), .val (.int p3), .val (.int p4), .val (.int p5), .val (.int p6), .val (.double (FP.i2d p3)), .second, .val (.double (FP.i2d p4)), .second, .val (.double (FP.i2d p5)), .second, .val (.double (FP.i2d p6)), .second, .val (.int (3 : Int32)), .val (.int (4 : Int32)), .val (.ref b_34), .val (.ref b_34)] [(.ref b_34)])) _
          refine XS.iconst X36.here hx rfl (hb hby at_297) ?_
          show Steps p.tables e below (T36.setTop (mkF m 298 #[.val (.int p1), .val (.int p2), .val (.int p3), .val (.int p4), .val (.int p5), .val (.int p6), .val (.double (FP.i2d p3)), .second, .val (.double (FP.i2d p4)), .second, .val (.double (FP.i2d p5)), .second, .val (.double (FP.i2d p6)), .second, .val (.int (3 : Int32)), .val (.int (4 : Int32)), .val (.ref b_34), .val (.ref b_34)] [(.int (3 : Int32)), (.ref b_34)])) _
          refine X36.daload hx (j := (3 : Int32)) (v := (.double (FP.i2d p6))) (by rw [e36]; exact Ar47.1) (State.isArrayOf_alike hZ.alike Ar47.2.1) Ar47.2.2 in48 at49 (g := (mkF m 298 #[.val (.int p1), .val (.int p2), .val (.int p3), .val (.int p4), .val (.int p5), .val (.int p6), .val (.double (FP.i2d p3)), .second, .val (.double (FP.i2d p4)), .second, .val (.double (FP.i2d p5)), .second, .val (.double (FP.i2d p6)), .second, .val (.int (3 : Int32)), .val (.int (4 : Int32)), .val (.ref b_34), .val (.ref b_34)] [(.int (3 : Int32)), (.ref b_34)])) rfl rfl (hb hby at_298) _ ?_
          show Steps p.tables e below (T36.setTop (mkF m 299 #[.val (.int p1), .val (.int p2), .val (.int p3), .val (.int p4), .val (.int p5), .val (.int p6), .val (.double (FP.i2d p3)), .second, .val (.double (FP.i2d p4)), .second, .val (.double (FP.i2d p5)), .second, .val (.double (FP.i2d p6)), .second, .val (.int (3 : Int32)), .val (.int (4 : Int32)), .val (.ref b_34), .val (.ref b_34)] [(.double (FP.i2d p6))])) _
          refine XS.dload X36.here hx rfl (hb hby at_299) rfl ?_
          show Steps p.tables e below (T36.setTop (mkF m 301 #[.val (.int p1), .val (.int p2), .val (.int p3), .val (.int p4), .val (.int p5), .val (.int p6), .val (.double (FP.i2d p3)), .second, .val (.double (FP.i2d p4)), .second, .val (.double (FP.i2d p5)), .second, .val (.double (FP.i2d p6)), .second, .val (.int (3 : Int32)), .val (.int (4 : Int32)), .val (.ref b_34), .val (.ref b_34)] [(.double (FP.i2d p6)), (.double (FP.i2d p6))])) _
          refine XS.dcmpS X36.here hx rfl (hb hby at_301) rfl (v := (0 : Int32)) (dcmpV_self (Fl.i2d_fin _).noNaN .l) ?_
          show Steps p.tables e below (T36.setTop (mkF m 302 #[.val (.int p1), .val (.int p2), .val (.int p3), .val (.int p4), .val (.int p5), .val (.int p6), .val (.double (FP.i2d p3)), .second, .val (.double (FP.i2d p4)), .second, .val (.double (FP.i2d p5)), .second, .val (.double (FP.i2d p6)), .second, .val (.int (3 : Int32)), .val (.int (4 : Int32)), .val (.ref b_34), .val (.ref b_34)] [(.int (0 : Int32))])) _
          refine XS.ifYes X36.here hx rfl (pc0 := 302) (pc' := 307) rfl (hb hby at_302) rfl ((if0 _ _).trans (teq ((by decide) : (0 : Int32) = (0 : Int32))).1) (by decide) (by decide) ?_
          show Steps p.tables e below (T36.setTop (mkF m 307 #[.val (.int p1), .val (.int p2), .val (.int p3), .val (.int p4), .val (.int p5), .val (.int p6), .val (.double (FP.i2d p3)), .second, .val (.double (FP.i2d p4)), .second, .val (.double (FP.i2d p5)), .second, .val (.double (FP.i2d p6)), .second, .val (.int (3 : Int32)), .val (.int (4 : Int32)), .val (.ref b_34), .val (.ref b_34)] [])) _
          refine XS.iconst X36.here hx rfl (hb hby at_307) ?_
          exact kt)
      obtain ⟨fs, hr, hrun, hended, hW, hsame⟩ := X36.leave (v := some (.int (1 : Int32))) (fun h => by rw [Bd.returns] at h; cases h)
      refine ⟨_, _, pre50 _ ?_, hrun, hended, _, _, rfl, ?_, ⟨_, rfl⟩, hW, hsame.mono (by decide) (by decide)⟩
      · show Steps p.tables e below (T36.setTop (mkF m 308 #[.val (.int p1), .val (.int p2), .val (.int p3), .val (.int p4), .val (.int p5), .val (.int p6), .val (.double (FP.i2d p3)), .second, .val (.double (FP.i2d p4)), .second, .val (.double (FP.i2d p5)), .second, .val (.double (FP.i2d p6)), .second, .val (.int (3 : Int32)), .val (.int (4 : Int32)), .val (.ref b_34), .val (.ref b_34)] [(.int (1 : Int32))])) _
        exact retN X36 hx (t := .boolean) Bd.returns (by simp) (hb hby at_308) hr
      · show Q0 Z p1 p2 p3 p4 p5 p6 h0 n0 _ T36.heap _
        rw [e36]
        exact ⟨rfl, N36⟩
  · skip
    have pre51 : ∀ t, Steps p.tables e below (s₁.setTop (mkF m 24 #[.val (.int p1), .val (.int p2), .val (.int p3), .val (.int p4), .val (.int p5), .val (.int p6), .val (.double (FP.i2d p3)), .second, .val (.double (FP.i2d p4)), .second, .val (.double (FP.i2d p5)), .second, .val (.double (FP.i2d p6)), .second, .unset, .unset, .unset, .unset] [])) t → Steps p.tables e below (s₁.setTop (entryFrame m #[(.int p1), (.int p2), (.int p3), (.int p4), (.int p5), (.int p6)] maxLocals)) t := fun t kt => pre1 t (by
        show Steps p.tables e below (s₁.setTop (mkF m 21 #[.val (.int p1), .val (.int p2), .val (.int p3), .val (.int p4), .val (.int p5), .val (.int p6), .val (.double (FP.i2d p3)), .second, .val (.double (FP.i2d p4)), .second, .val (.double (FP.i2d p5)), .second, .val (.double (FP.i2d p6)), .second, .unset, .unset, .unset, .unset] [(.int (p1 &&& (1 : Int32)))])) _
        refine XS.ifNo X0.here hx rfl (hb hby at_21) rfl ((if0 _ _).trans (feq (hc21_2 : ¬ ((p1 &&& (1 : Int32)) = (0 : Int32)))).1) ?_
        exact kt)
    rcases own_k5 p2 with hk | hk | hk | hk | hk
    · skip
      obtain ⟨T52, h52, k52, X52, e52, E52, A52, st52⟩ := newP X0 hx hZ (hw _ (List.mem_of_getElem? (i := 4) rfl)) e0 (g := (mkF m 33 #[.val (.int p1), .val (.int p2), .val (.int p3), .val (.int p4), .val (.int p5), .val (.int p6), .val (.double (FP.i2d p3)), .second, .val (.double (FP.i2d p4)), .second, .val (.double (FP.i2d p5)), .second, .val (.double (FP.i2d p6)), .second, .val (.int (0 : Int32)), .unset, .unset, .unset] [(.int (1 : Int32))])) rfl (hb hby at_33) rfl (by decide) (cap := 1) (by decide) (by decide) (by decide) (by decide)
      obtain ⟨b52, g52⟩ : ∃ z, z = h0.size := ⟨_, rfl⟩
      rw [← g52] at A52 st52
      have g_b52 : n0 ≤ b52 := Nat.le_trans Z0 (Nat.le_of_eq g52.symm)
      have z53 : n0 ≤ h52.size := Nat.le_trans Z0 E52.1
      have V52 : Arv Z h52 b52 k52 .double (1 : Int32) [(.double (0 : UInt64))] (.double (0 : UInt64)) := (Arv.new A52 (by decide)).pad (pad_rep [] (.double (0 : UInt64)) 1)
      obtain ⟨cl54, Ar54, Q54, S54, M54, H54, G54⟩ := id V52
      have in55 : ¬ ((0 : Int32) < 0 ∨ cl54.slots.size ≤ ((0 : Int32)).toNatClampNeg) := inb_of S54 ⟨by decide, by decide⟩
      obtain ⟨T56, h56, X56, e56, W56, st56⟩ := stD X52 hx hZ e52 Ar54 (j := (0 : Int32)) in55 (g := (mkF m 39 #[.val (.int p1), .val (.int p2), .val (.int p3), .val (.int p4), .val (.int p5), .val (.int p6), .val (.double (FP.i2d p3)), .second, .val (.double (FP.i2d p4)), .second, .val (.double (FP.i2d p5)), .second, .val (.double (FP.i2d p6)), .second, .val (.int (0 : Int32)), .unset, .unset, .unset] [(.double (FP.i2d p3)), (.int (0 : Int32)), (.ref b52), (.ref b52)])) rfl rfl (hb hby at_39)
      have z57 : n0 ≤ h56.size := Nat.le_trans z53 (Keep.of_wr W56).1
      have V56 : Arv Z h56 b52 k52 .double (1 : Int32) [(.double (FP.i2d p3))] (.double (0 : UInt64)) := Arv.set Ar54 Q54 S54 M54 H54 G54 rfl W56 0 rfl (Nat.le_of_ble_eq_true rfl)
      have N56 : Fr n0 _ := Fr.snoc X56 N0 g_b52
      obtain ⟨_, _, ⟨T58, L58, kk58, nn58⟩, -, X58, ⟨Lc58, hQ58, l58, y58, z58⟩, st58⟩ := Jvm.LawKit.callS X56 hx (y := (⟨"com/example/manyfront/manyfront/cli/ReferencePoint", "fit", "([DI)[D"⟩ : MethodName)) hown (mvT hZ (hw _ (List.mem_of_getElem? (i := 5) rfl))) (mvT hZ (hw _ (List.mem_of_getElem? (i := 6) rfl))) (mvT hZ (hw _ (List.mem_of_getElem? (i := 7) rfl))) (mvT hZ (hw _ (List.mem_of_getElem? (i := 8) rfl))) (by decide) (backOf (W := 0) (rmfitN0 l Z a0 hw [] b52 (FP.i2d p3) k52 h56 n0 z57 V56) hZ (hw _ (List.mem_of_getElem? (i := 8) rfl)) (hw _ (List.mem_of_getElem? (i := 7) rfl)) (by decide) (by decide)) (g := (mkF m 46 #[.val (.int p1), .val (.int p2), .val (.int p3), .val (.int p4), .val (.int p5), .val (.int p6), .val (.double (FP.i2d p3)), .second, .val (.double (FP.i2d p4)), .second, .val (.double (FP.i2d p5)), .second, .val (.double (FP.i2d p6)), .second, .val (.int (0 : Int32)), .val (.ref b52), .unset, .unset] [(.int (0 : Int32)), (.ref b52)])) rfl (by rw [hml]; rfl) (argsL := [(.ref b52), (.int (0 : Int32))]) (rest := []) (lenOf pd__28_5bDI_29_5bD rfl) rfl (by show 2 * 0 + _ ≤ _; exact Nat.le_of_eq rfl) (hb hby at_46) (fun _ _ => ⟨rfl, e56, (by decide : 1 + 1 ≤ _), (by decide : 1 + 0 ≤ _)⟩)
      dsimp only [Pt.U, Pt.locs, Pt.cells, Pt.slots] at X58 l58 y58 z58 st58 hQ58
      subst l58 y58 z58
      obtain ⟨b_58, kb_58, rfl, N58q, K58, x58_0, x58_1⟩ := hQ58
      have N58 := Fr.app N56 N58q
      have ne59 : b52 ≠ b_58 := Nat.ne_of_lt (Nat.lt_of_lt_of_le V56.lt x58_0)
      have g_b_58 : n0 ≤ b_58 := Nat.le_trans z57 x58_0
      have z60 : n0 ≤ T58.heap.size := Nat.le_trans z57 K58.1
      obtain ⟨cl61, Ar61, Q61, S61, M61, H61, G61⟩ := id x58_1
      have f62 : Arv Z T58.heap b52 k52 .double (1 : Int32) [(.double (FP.i2d p3))] (.double (0 : UInt64)) := (V56.keep K58 own_nm0)
      obtain ⟨cl63, Ar63, Q63, S63, M63, H63, G63⟩ := id f62
      obtain ⟨cl64, Ar64, Q64, S64, M64, H64, G64⟩ := id f62
      have in65 : ¬ ((0 : Int32) < 0 ∨ cl64.slots.size ≤ ((0 : Int32)).toNatClampNeg) := inb_of S64 ⟨by decide, by decide⟩
      have at66 : cl64.slots[((0 : Int32)).toNatClampNeg]? = some (.double (FP.i2d p3)) := H64 0 (by rw [S64]; decide)
      have pre67 : ∀ t, Steps p.tables e below (T58.setTop (mkF m 172 #[.val (.int p1), .val (.int p2), .val (.int p3), .val (.int p4), .val (.int p5), .val (.int p6), .val (.double (FP.i2d p3)), .second, .val (.double (FP.i2d p4)), .second, .val (.double (FP.i2d p5)), .second, .val (.double (FP.i2d p6)), .second, .val (.int (0 : Int32)), .val (.ref b52), .val (.ref b_58), .unset] [(.int (1 : Int32))])) t → Steps p.tables e below (s₁.setTop (entryFrame m #[(.int p1), (.int p2), (.int p3), (.int p4), (.int p5), (.int p6)] maxLocals)) t := fun t kt => pre51 t (by
          show Steps p.tables e below (s₁.setTop (mkF m 24 #[.val (.int p1), .val (.int p2), .val (.int p3), .val (.int p4), .val (.int p5), .val (.int p6), .val (.double (FP.i2d p3)), .second, .val (.double (FP.i2d p4)), .second, .val (.double (FP.i2d p5)), .second, .val (.double (FP.i2d p6)), .second, .unset, .unset, .unset, .unset] [])) _
          refine XS.iloadN X0.here hx rfl (hb hby at_24) rfl ?_
          show Steps p.tables e below (s₁.setTop (mkF m 25 #[.val (.int p1), .val (.int p2), .val (.int p3), .val (.int p4), .val (.int p5), .val (.int p6), .val (.double (FP.i2d p3)), .second, .val (.double (FP.i2d p4)), .second, .val (.double (FP.i2d p5)), .second, .val (.double (FP.i2d p6)), .second, .unset, .unset, .unset, .unset] [(.int p2)])) _
          refine X0.ldcInt hx hown (mvT hZ (hw _ (List.mem_of_getElem? (i := 9) rfl))) (g := (mkF m 25 #[.val (.int p1), .val (.int p2), .val (.int p3), .val (.int p4), .val (.int p5), .val (.int p6), .val (.double (FP.i2d p3)), .second, .val (.double (FP.i2d p4)), .second, .val (.double (FP.i2d p5)), .second, .val (.double (FP.i2d p6)), .second, .unset, .unset, .unset, .unset] [(.int p2)])) rfl (hb hby at_25) _ ?_
          show Steps p.tables e below (s₁.setTop (mkF m 27 #[.val (.int p1), .val (.int p2), .val (.int p3), .val (.int p4), .val (.int p5), .val (.int p6), .val (.double (FP.i2d p3)), .second, .val (.double (FP.i2d p4)), .second, .val (.double (FP.i2d p5)), .second, .val (.double (FP.i2d p6)), .second, .unset, .unset, .unset, .unset] [(.int (2147483647 : Int32)), (.int p2)])) _
          refine XS.iand X0.here hx rfl (hb hby at_27) rfl ?_
          show Steps p.tables e below (s₁.setTop (mkF m 28 #[.val (.int p1), .val (.int p2), .val (.int p3), .val (.int p4), .val (.int p5), .val (.int p6), .val (.double (FP.i2d p3)), .second, .val (.double (FP.i2d p4)), .second, .val (.double (FP.i2d p5)), .second, .val (.double (FP.i2d p6)), .second, .unset, .unset, .unset, .unset] [(.int (p2 &&& (2147483647 : Int32)))])) _
          refine XS.iconst X0.here hx rfl (hb hby at_28) ?_
          show Steps p.tables e below (s₁.setTop (mkF m 29 #[.val (.int p1), .val (.int p2), .val (.int p3), .val (.int p4), .val (.int p5), .val (.int p6), .val (.double (FP.i2d p3)), .second, .val (.double (FP.i2d p4)), .second, .val (.double (FP.i2d p5)), .second, .val (.double (FP.i2d p6)), .second, .unset, .unset, .unset, .unset] [(.int (5 : Int32)), (.int (p2 &&& (2147483647 : Int32)))])) _
          refine iremM X0 hx rfl (hb hby at_29) rfl (by decide) ?_
          show Steps p.tables e below (s₁.setTop (mkF m 30 #[.val (.int p1), .val (.int p2), .val (.int p3), .val (.int p4), .val (.int p5), .val (.int p6), .val (.double (FP.i2d p3)), .second, .val (.double (FP.i2d p4)), .second, .val (.double (FP.i2d p5)), .second, .val (.double (FP.i2d p6)), .second, .unset, .unset, .unset, .unset] [(.int ((p2 &&& (2147483647 : Int32)) % (5 : Int32)))])) _
          rw [hk]
          show Steps p.tables e below (s₁.setTop (mkF m 30 #[.val (.int p1), .val (.int p2), .val (.int p3), .val (.int p4), .val (.int p5), .val (.int p6), .val (.double (FP.i2d p3)), .second, .val (.double (FP.i2d p4)), .second, .val (.double (FP.i2d p5)), .second, .val (.double (FP.i2d p6)), .second, .unset, .unset, .unset, .unset] [(.int (0 : Int32))])) _
          refine XS.istore X0.here hx rfl (hb hby at_30) rfl (l' := #[.val (.int p1), .val (.int p2), .val (.int p3), .val (.int p4), .val (.int p5), .val (.int p6), .val (.double (FP.i2d p3)), .second, .val (.double (FP.i2d p4)), .second, .val (.double (FP.i2d p5)), .second, .val (.double (FP.i2d p6)), .second, .val (.int (0 : Int32)), .unset, .unset, .unset]) rfl ?_
          show Steps p.tables e below (s₁.setTop (mkF m 32 #[.val (.int p1), .val (.int p2), .val (.int p3), .val (.int p4), .val (.int p5), .val (.int p6), .val (.double (FP.i2d p3)), .second, .val (.double (FP.i2d p4)), .second, .val (.double (FP.i2d p5)), .second, .val (.double (FP.i2d p6)), .second, .val (.int (0 : Int32)), .unset, .unset, .unset] [])) _
          refine XS.iconst X0.here hx rfl (hb hby at_32) ?_
          show Steps p.tables e below (s₁.setTop (mkF m 33 #[.val (.int p1), .val (.int p2), .val (.int p3), .val (.int p4), .val (.int p5), .val (.int p6), .val (.double (FP.i2d p3)), .second, .val (.double (FP.i2d p4)), .second, .val (.double (FP.i2d p5)), .second, .val (.double (FP.i2d p6)), .second, .val (.int (0 : Int32)), .unset, .unset, .unset] [(.int (1 : Int32))])) _
          refine st52 _ ?_
          show Steps p.tables e below (T52.setTop (mkF m 35 #[.val (.int p1), .val (.int p2), .val (.int p3), .val (.int p4), .val (.int p5), .val (.int p6), .val (.double (FP.i2d p3)), .second, .val (.double (FP.i2d p4)), .second, .val (.double (FP.i2d p5)), .second, .val (.double (FP.i2d p6)), .second, .val (.int (0 : Int32)), .unset, .unset, .unset] [(.ref b52)])) _
          refine XS.dup X52.here hx rfl (hb hby at_35) rfl rfl ?_
          show Steps p.tables e below (T52.setTop (mkF m 36 #[.val (.int p1), .val (.int p2), .val (.int p3), .val (.int p4), .val (.int p5), .val (.int p6), .val (.double (FP.i2d p3)), .second, .val (.double (FP.i2d p4)), .second, .val (.double (FP.i2d p5)), .second, .val (.double (FP.i2d p6)), .second, .val (.int (0 : Int32)), .unset, .unset, .unset] [(.ref b52), (.ref b52)])) _
          refine XS.iconst X52.here hx rfl (hb hby at_36) ?_
          show Steps p.tables e below (T52.setTop (mkF m 37 #[.val (.int p1), .val (.int p2), .val (.int p3), .val (.int p4), .val (.int p5), .val (.int p6), .val (.double (FP.i2d p3)), .second, .val (.double (FP.i2d p4)), .second, .val (.double (FP.i2d p5)), .second, .val (.double (FP.i2d p6)), .second, .val (.int (0 : Int32)), .unset, .unset, .unset] [(.int (0 : Int32)), (.ref b52), (.ref b52)])) _
          refine XS.dload X52.here hx rfl (hb hby at_37) rfl ?_
          show Steps p.tables e below (T52.setTop (mkF m 39 #[.val (.int p1), .val (.int p2), .val (.int p3), .val (.int p4), .val (.int p5), .val (.int p6), .val (.double (FP.i2d p3)), .second, .val (.double (FP.i2d p4)), .second, .val (.double (FP.i2d p5)), .second, .val (.double (FP.i2d p6)), .second, .val (.int (0 : Int32)), .unset, .unset, .unset] [(.double (FP.i2d p3)), (.int (0 : Int32)), (.ref b52), (.ref b52)])) _
          refine st56 _ ?_
          show Steps p.tables e below (T56.setTop (mkF m 40 #[.val (.int p1), .val (.int p2), .val (.int p3), .val (.int p4), .val (.int p5), .val (.int p6), .val (.double (FP.i2d p3)), .second, .val (.double (FP.i2d p4)), .second, .val (.double (FP.i2d p5)), .second, .val (.double (FP.i2d p6)), .second, .val (.int (0 : Int32)), .unset, .unset, .unset] [(.ref b52)])) _
          refine XS.astore X56.here hx rfl (hb hby at_40) rfl rfl (l' := #[.val (.int p1), .val (.int p2), .val (.int p3), .val (.int p4), .val (.int p5), .val (.int p6), .val (.double (FP.i2d p3)), .second, .val (.double (FP.i2d p4)), .second, .val (.double (FP.i2d p5)), .second, .val (.double (FP.i2d p6)), .second, .val (.int (0 : Int32)), .val (.ref b52), .unset, .unset]) rfl ?_
          show Steps p.tables e below (T56.setTop (mkF m 42 #[.val (.int p1), .val (.int p2), .val (.int p3), .val (.int p4), .val (.int p5), .val (.int p6), .val (.double (FP.i2d p3)), .second, .val (.double (FP.i2d p4)), .second, .val (.double (FP.i2d p5)), .second, .val (.double (FP.i2d p6)), .second, .val (.int (0 : Int32)), .val (.ref b52), .unset, .unset] [])) _
          refine XS.aload X56.here hx rfl (hb hby at_42) rfl rfl ?_
          show Steps p.tables e below (T56.setTop (mkF m 44 #[.val (.int p1), .val (.int p2), .val (.int p3), .val (.int p4), .val (.int p5), .val (.int p6), .val (.double (FP.i2d p3)), .second, .val (.double (FP.i2d p4)), .second, .val (.double (FP.i2d p5)), .second, .val (.double (FP.i2d p6)), .second, .val (.int (0 : Int32)), .val (.ref b52), .unset, .unset] [(.ref b52)])) _
          refine XS.iload X56.here hx rfl (hb hby at_44) rfl ?_
          show Steps p.tables e below (T56.setTop (mkF m 46 #[.val (.int p1), .val (.int p2), .val (.int p3), .val (.int p4), .val (.int p5), .val (.int p6), .val (.double (FP.i2d p3)), .second, .val (.double (FP.i2d p4)), .second, .val (.double (FP.i2d p5)), .second, .val (.double (FP.i2d p6)), .second, .val (.int (0 : Int32)), .val (.ref b52), .unset, .unset] [(.int (0 : Int32)), (.ref b52)])) _
          refine st58 _ ?_
          show Steps p.tables e below (T58.setTop (mkF m 49 #[.val (.int p1), .val (.int p2), .val (.int p3), .val (.int p4), .val (.int p5), .val (.int p6), .val (.double (FP.i2d p3)), .second, .val (.double (FP.i2d p4)), .second, .val (.double (FP.i2d p5)), .second, .val (.double (FP.i2d p6)), .second, .val (.int (0 : Int32)), .val (.ref b52), .unset, .unset] [(.ref b_58)])) _
          refine XS.astore X58.here hx rfl (hb hby at_49) rfl rfl (l' := #[.val (.int p1), .val (.int p2), .val (.int p3), .val (.int p4), .val (.int p5), .val (.int p6), .val (.double (FP.i2d p3)), .second, .val (.double (FP.i2d p4)), .second, .val (.double (FP.i2d p5)), .second, .val (.double (FP.i2d p6)), .second, .val (.int (0 : Int32)), .val (.ref b52), .val (.ref b_58), .unset]) rfl ?_
          show Steps p.tables e below (T58.setTop (mkF m 51 #[.val (.int p1), .val (.int p2), .val (.int p3), .val (.int p4), .val (.int p5), .val (.int p6), .val (.double (FP.i2d p3)), .second, .val (.double (FP.i2d p4)), .second, .val (.double (FP.i2d p5)), .second, .val (.double (FP.i2d p6)), .second, .val (.int (0 : Int32)), .val (.ref b52), .val (.ref b_58), .unset] [])) _
          refine XS.aload X58.here hx rfl (hb hby at_51) rfl rfl ?_
          show Steps p.tables e below (T58.setTop (mkF m 53 #[.val (.int p1), .val (.int p2), .val (.int p3), .val (.int p4), .val (.int p5), .val (.int p6), .val (.double (FP.i2d p3)), .second, .val (.double (FP.i2d p4)), .second, .val (.double (FP.i2d p5)), .second, .val (.double (FP.i2d p6)), .second, .val (.int (0 : Int32)), .val (.ref b52), .val (.ref b_58), .unset] [(.ref b_58)])) _
          refine XS.ifnullNo X58.here hx rfl (hb hby at_53) rfl ?_
          show Steps p.tables e below (T58.setTop (mkF m 56 #[.val (.int p1), .val (.int p2), .val (.int p3), .val (.int p4), .val (.int p5), .val (.int p6), .val (.double (FP.i2d p3)), .second, .val (.double (FP.i2d p4)), .second, .val (.double (FP.i2d p5)), .second, .val (.double (FP.i2d p6)), .second, .val (.int (0 : Int32)), .val (.ref b52), .val (.ref b_58), .unset] [])) _
          refine XS.aload X58.here hx rfl (hb hby at_56) rfl rfl ?_
          show Steps p.tables e below (T58.setTop (mkF m 58 #[.val (.int p1), .val (.int p2), .val (.int p3), .val (.int p4), .val (.int p5), .val (.int p6), .val (.double (FP.i2d p3)), .second, .val (.double (FP.i2d p4)), .second, .val (.double (FP.i2d p5)), .second, .val (.double (FP.i2d p6)), .second, .val (.int (0 : Int32)), .val (.ref b52), .val (.ref b_58), .unset] [(.ref b_58)])) _
          refine X58.arraylength hx (cell := cl61) Ar61.1 (State.isArrayOf_alike hZ.alike Ar61.2.1) (g := (mkF m 58 #[.val (.int p1), .val (.int p2), .val (.int p3), .val (.int p4), .val (.int p5), .val (.int p6), .val (.double (FP.i2d p3)), .second, .val (.double (FP.i2d p4)), .second, .val (.double (FP.i2d p5)), .second, .val (.double (FP.i2d p6)), .second, .val (.int (0 : Int32)), .val (.ref b52), .val (.ref b_58), .unset] [(.ref b_58)])) rfl rfl (hb hby at_58) _ ?_
          rw [len_of S61 M61]
          show Steps p.tables e below (T58.setTop (mkF m 59 #[.val (.int p1), .val (.int p2), .val (.int p3), .val (.int p4), .val (.int p5), .val (.int p6), .val (.double (FP.i2d p3)), .second, .val (.double (FP.i2d p4)), .second, .val (.double (FP.i2d p5)), .second, .val (.double (FP.i2d p6)), .second, .val (.int (0 : Int32)), .val (.ref b52), .val (.ref b_58), .unset] [(.int (0 : Int32))])) _
          refine XS.iload X58.here hx rfl (hb hby at_59) rfl ?_
          show Steps p.tables e below (T58.setTop (mkF m 61 #[.val (.int p1), .val (.int p2), .val (.int p3), .val (.int p4), .val (.int p5), .val (.int p6), .val (.double (FP.i2d p3)), .second, .val (.double (FP.i2d p4)), .second, .val (.double (FP.i2d p5)), .second, .val (.double (FP.i2d p6)), .second, .val (.int (0 : Int32)), .val (.ref b52), .val (.ref b_58), .unset] [(.int (0 : Int32)), (.int (0 : Int32))])) _
          refine XS.icmpYes X58.here hx rfl (pc0 := 61) (pc' := 66) rfl (hb hby at_61) rfl (teq ((by decide) : (0 : Int32) = (0 : Int32))).1 (by decide) (by decide) ?_
          show Steps p.tables e below (T58.setTop (mkF m 66 #[.val (.int p1), .val (.int p2), .val (.int p3), .val (.int p4), .val (.int p5), .val (.int p6), .val (.double (FP.i2d p3)), .second, .val (.double (FP.i2d p4)), .second, .val (.double (FP.i2d p5)), .second, .val (.double (FP.i2d p6)), .second, .val (.int (0 : Int32)), .val (.ref b52), .val (.ref b_58), .unset] [])) _
          refine XS.iload X58.here hx rfl (hb hby at_66) rfl ?_
          show Steps p.tables e below (T58.setTop (mkF m 68 #[.val (.int p1), .val (.int p2), .val (.int p3), .val (.int p4), .val (.int p5), .val (.int p6), .val (.double (FP.i2d p3)), .second, .val (.double (FP.i2d p4)), .second, .val (.double (FP.i2d p5)), .second, .val (.double (FP.i2d p6)), .second, .val (.int (0 : Int32)), .val (.ref b52), .val (.ref b_58), .unset] [(.int (0 : Int32))])) _
          refine XS.iconst X58.here hx rfl (hb hby at_68) ?_
          show Steps p.tables e below (T58.setTop (mkF m 69 #[.val (.int p1), .val (.int p2), .val (.int p3), .val (.int p4), .val (.int p5), .val (.int p6), .val (.double (FP.i2d p3)), .second, .val (.double (FP.i2d p4)), .second, .val (.double (FP.i2d p5)), .second, .val (.double (FP.i2d p6)), .second, .val (.int (0 : Int32)), .val (.ref b52), .val (.ref b_58), .unset] [(.int (1 : Int32)), (.int (0 : Int32))])) _
          refine XS.icmpNo X58.here hx rfl (hb hby at_69) rfl (feq ((by decide) : ¬ ((0 : Int32) = (1 : Int32)))).1 ?_
          show Steps p.tables e below (T58.setTop (mkF m 72 #[.val (.int p1), .val (.int p2), .val (.int p3), .val (.int p4), .val (.int p5), .val (.int p6), .val (.double (FP.i2d p3)), .second, .val (.double (FP.i2d p4)), .second, .val (.double (FP.i2d p5)), .second, .val (.double (FP.i2d p6)), .second, .val (.int (0 : Int32)), .val (.ref b52), .val (.ref b_58), .unset] [])) _
          refine XS.aload X58.here hx rfl (hb hby at_72) rfl rfl ?_
          show Steps p.tables e below (T58.setTop (mkF m 74 #[.val (.int p1), .val (.int p2), .val (.int p3), .val (.int p4), .val (.int p5), .val (.int p6), .val (.double (FP.i2d p3)), .second, .val (.double (FP.i2d p4)), .second, .val (.double (FP.i2d p5)), .second, .val (.double (FP.i2d p6)), .second, .val (.int (0 : Int32)), .val (.ref b52), .val (.ref b_58), .unset] [(.ref b_58)])) _
          refine XS.aload X58.here hx rfl (hb hby at_74) rfl rfl ?_
          show Steps p.tables e below (T58.setTop (mkF m 76 #[.val (.int p1), .val (.int p2), .val (.int p3), .val (.int p4), .val (.int p5), .val (.int p6), .val (.double (FP.i2d p3)), .second, .val (.double (FP.i2d p4)), .second, .val (.double (FP.i2d p5)), .second, .val (.double (FP.i2d p6)), .second, .val (.int (0 : Int32)), .val (.ref b52), .val (.ref b_58), .unset] [(.ref b52), (.ref b_58)])) _
          refine Jvm.RoadKit.acmp (g := (mkF m 76 #[.val (.int p1), .val (.int p2), .val (.int p3), .val (.int p4), .val (.int p5), .val (.int p6), .val (.double (FP.i2d p3)), .second, .val (.double (FP.i2d p4)), .second, .val (.double (FP.i2d p5)), .second, .val (.double (FP.i2d p6)), .second, .val (.int (0 : Int32)), .val (.ref b52), .val (.ref b_58), .unset] [(.ref b52), (.ref b_58)])) X58 hx rfl rfl rfl (pc0 := 76) (pc' := 81) (same := false) rfl (hb hby at_76) rfl (decide_eq_false fun q => (Ne.symm ne59) (Value.ref.inj q)) (by decide) (by decide) ?_
          show Steps p.tables e below (T58.setTop (mkF m 81 #[.val (.int p1), .val (.int p2), .val (.int p3), .val (.int p4), .val (.int p5), .val (.int p6), .val (.double (FP.i2d p3)), .second, .val (.double (FP.i2d p4)), .second, .val (.double (FP.i2d p5)), .second, .val (.double (FP.i2d p6)), .second, .val (.int (0 : Int32)), .val (.ref b52), .val (.ref b_58), .unset] [])) _
          refine XS.aload X58.here hx rfl (hb hby at_81) rfl rfl ?_
          show Steps p.tables e below (T58.setTop (mkF m 83 #[.val (.int p1), .val (.int p2), .val (.int p3), .val (.int p4), .val (.int p5), .val (.int p6), .val (.double (FP.i2d p3)), .second, .val (.double (FP.i2d p4)), .second, .val (.double (FP.i2d p5)), .second, .val (.double (FP.i2d p6)), .second, .val (.int (0 : Int32)), .val (.ref b52), .val (.ref b_58), .unset] [(.ref b52)])) _
          refine X58.arraylength hx (cell := cl63) Ar63.1 (State.isArrayOf_alike hZ.alike Ar63.2.1) (g := (mkF m 83 #[.val (.int p1), .val (.int p2), .val (.int p3), .val (.int p4), .val (.int p5), .val (.int p6), .val (.double (FP.i2d p3)), .second, .val (.double (FP.i2d p4)), .second, .val (.double (FP.i2d p5)), .second, .val (.double (FP.i2d p6)), .second, .val (.int (0 : Int32)), .val (.ref b52), .val (.ref b_58), .unset] [(.ref b52)])) rfl rfl (hb hby at_83) _ ?_
          rw [len_of S63 M63]
          show Steps p.tables e below (T58.setTop (mkF m 84 #[.val (.int p1), .val (.int p2), .val (.int p3), .val (.int p4), .val (.int p5), .val (.int p6), .val (.double (FP.i2d p3)), .second, .val (.double (FP.i2d p4)), .second, .val (.double (FP.i2d p5)), .second, .val (.double (FP.i2d p6)), .second, .val (.int (0 : Int32)), .val (.ref b52), .val (.ref b_58), .unset] [(.int (1 : Int32))])) _
          refine XS.iconst X58.here hx rfl (hb hby at_84) ?_
          show Steps p.tables e below (T58.setTop (mkF m 85 #[.val (.int p1), .val (.int p2), .val (.int p3), .val (.int p4), .val (.int p5), .val (.int p6), .val (.double (FP.i2d p3)), .second, .val (.double (FP.i2d p4)), .second, .val (.double (FP.i2d p5)), .second, .val (.double (FP.i2d p6)), .second, .val (.int (0 : Int32)), .val (.ref b52), .val (.ref b_58), .unset] [(.int (1 : Int32)), (.int (1 : Int32))])) _
          refine XS.icmpNo X58.here hx rfl (hb hby at_85) rfl (teq ((by decide) : (1 : Int32) = (1 : Int32))).2 ?_
          show Steps p.tables e below (T58.setTop (mkF m 88 #[.val (.int p1), .val (.int p2), .val (.int p3), .val (.int p4), .val (.int p5), .val (.int p6), .val (.double (FP.i2d p3)), .second, .val (.double (FP.i2d p4)), .second, .val (.double (FP.i2d p5)), .second, .val (.double (FP.i2d p6)), .second, .val (.int (0 : Int32)), .val (.ref b52), .val (.ref b_58), .unset] [])) _
          refine XS.aload X58.here hx rfl (hb hby at_88) rfl rfl ?_
          show Steps p.tables e below (T58.setTop (mkF m 90 #[.val (.int p1), .val (.int p2), .val (.int p3), .val (.int p4), .val (.int p5), .val (.int p6), .val (.double (FP.i2d p3)), .second, .val (.double (FP.i2d p4)), .second, .val (.double (FP.i2d p5)), .second, .val (.double (FP.i2d p6)), .second, .val (.int (0 : Int32)), .val (.ref b52), .val (.ref b_58), .unset] [(.ref b52)])) _
          refine XS.iconst X58.here hx rfl (hb hby at_90) ?_
          show Steps p.tables e below (T58.setTop (mkF m 91 #[.val (.int p1), .val (.int p2), .val (.int p3), .val (.int p4), .val (.int p5), .val (.int p6), .val (.double (FP.i2d p3)), .second, .val (.double (FP.i2d p4)), .second, .val (.double (FP.i2d p5)), .second, .val (.double (FP.i2d p6)), .second, .val (.int (0 : Int32)), .val (.ref b52), .val (.ref b_58), .unset] [(.int (0 : Int32)), (.ref b52)])) _
          refine X58.daload hx (j := (0 : Int32)) (v := (.double (FP.i2d p3))) Ar64.1 (State.isArrayOf_alike hZ.alike Ar64.2.1) Ar64.2.2 in65 at66 (g := (mkF m 91 #[.val (.int p1), .val (.int p2), .val (.int p3), .val (.int p4), .val (.int p5), .val (.int p6), .val (.double (FP.i2d p3)), .second, .val (.double (FP.i2d p4)), .second, .val (.double (FP.i2d p5)), .second, .val (.double (FP.i2d p6)), .second, .val (.int (0 : Int32)), .val (.ref b52), .val (.ref b_58), .unset] [(.int (0 : Int32)), (.ref b52)])) rfl rfl (hb hby at_91) _ ?_
          show Steps p.tables e below (T58.setTop (mkF m 92 #[.val (.int p1), .val (.int p2), .val (.int p3), .val (.int p4), .val (.int p5), .val (.int p6), .val (.double (FP.i2d p3)), .second, .val (.double (FP.i2d p4)), .second, .val (.double (FP.i2d p5)), .second, .val (.double (FP.i2d p6)), .second, .val (.int (0 : Int32)), .val (.ref b52), .val (.ref b_58), .unset] [(.double (FP.i2d p3))])) _
          refine XS.dload X58.here hx rfl (hb hby at_92) rfl ?_
          show Steps p.tables e below (T58.setTop (mkF m 94 #[.val (.int p1), .val (.int p2), .val (.int p3), .val (.int p4), .val (.int p5), .val (.int p6), .val (.double (FP.i2d p3)), .second, .val (.double (FP.i2d p4)), .second, .val (.double (FP.i2d p5)), .second, .val (.double (FP.i2d p6)), .second, .val (.int (0 : Int32)), .val (.ref b52), .val (.ref b_58), .unset] [(.double (FP.i2d p3)), (.double (FP.i2d p3))])) _
          refine XS.dcmpS X58.here hx rfl (hb hby at_94) rfl (v := (0 : Int32)) (dcmpV_self (Fl.i2d_fin _).noNaN .l) ?_
          show Steps p.tables e below (T58.setTop (mkF m 95 #[.val (.int p1), .val (.int p2), .val (.int p3), .val (.int p4), .val (.int p5), .val (.int p6), .val (.double (FP.i2d p3)), .second, .val (.double (FP.i2d p4)), .second, .val (.double (FP.i2d p5)), .second, .val (.double (FP.i2d p6)), .second, .val (.int (0 : Int32)), .val (.ref b52), .val (.ref b_58), .unset] [(.int (0 : Int32))])) _
          refine XS.ifYes X58.here hx rfl (pc0 := 95) (pc' := 100) rfl (hb hby at_95) rfl ((if0 _ _).trans (teq ((by decide) : (0 : Int32) = (0 : Int32))).1) (by decide) (by decide) ?_
          show Steps p.tables e below (T58.setTop (mkF m 100 #[.val (.int p1), .val (.int p2), .val (.int p3), .val (.int p4), .val (.int p5), .val (.int p6), .val (.double (FP.i2d p3)), .second, .val (.double (FP.i2d p4)), .second, .val (.double (FP.i2d p5)), .second, .val (.double (FP.i2d p6)), .second, .val (.int (0 : Int32)), .val (.ref b52), .val (.ref b_58), .unset] [])) _
          refine XS.iload X58.here hx rfl (hb hby at_100) rfl ?_
          show Steps p.tables e below (T58.setTop (mkF m 102 #[.val (.int p1), .val (.int p2), .val (.int p3), .val (.int p4), .val (.int p5), .val (.int p6), .val (.double (FP.i2d p3)), .second, .val (.double (FP.i2d p4)), .second, .val (.double (FP.i2d p5)), .second, .val (.double (FP.i2d p6)), .second, .val (.int (0 : Int32)), .val (.ref b52), .val (.ref b_58), .unset] [(.int (0 : Int32))])) _
          refine XS.ifYes X58.here hx rfl (pc0 := 102) (pc' := 117) rfl (hb hby at_102) rfl ((if0 _ _).trans (flt ((by decide) : ¬ ((0 : Int32) < (0 : Int32)))).2.2.2) (by decide) (by decide) ?_
          show Steps p.tables e below (T58.setTop (mkF m 117 #[.val (.int p1), .val (.int p2), .val (.int p3), .val (.int p4), .val (.int p5), .val (.int p6), .val (.double (FP.i2d p3)), .second, .val (.double (FP.i2d p4)), .second, .val (.double (FP.i2d p5)), .second, .val (.double (FP.i2d p6)), .second, .val (.int (0 : Int32)), .val (.ref b52), .val (.ref b_58), .unset] [])) _
          refine XS.iload X58.here hx rfl (hb hby at_117) rfl ?_
          show Steps p.tables e below (T58.setTop (mkF m 119 #[.val (.int p1), .val (.int p2), .val (.int p3), .val (.int p4), .val (.int p5), .val (.int p6), .val (.double (FP.i2d p3)), .second, .val (.double (FP.i2d p4)), .second, .val (.double (FP.i2d p5)), .second, .val (.double (FP.i2d p6)), .second, .val (.int (0 : Int32)), .val (.ref b52), .val (.ref b_58), .unset] [(.int (0 : Int32))])) _
          refine XS.iconst X58.here hx rfl (hb hby at_119) ?_
          show Steps p.tables e below (T58.setTop (mkF m 120 #[.val (.int p1), .val (.int p2), .val (.int p3), .val (.int p4), .val (.int p5), .val (.int p6), .val (.double (FP.i2d p3)), .second, .val (.double (FP.i2d p4)), .second, .val (.double (FP.i2d p5)), .second, .val (.double (FP.i2d p6)), .second, .val (.int (0 : Int32)), .val (.ref b52), .val (.ref b_58), .unset] [(.int (1 : Int32)), (.int (0 : Int32))])) _
          refine XS.icmpYes X58.here hx rfl (pc0 := 120) (pc' := 135) rfl (hb hby at_120) rfl (flt ((by decide) : ¬ ((1 : Int32) < (0 : Int32)))).2.2.2 (by decide) (by decide) ?_
          show Steps p.tables e below (T58.setTop (mkF m 135 #[.val (.int p1), .val (.int p2), .val (.int p3), .val (.int p4), .val (.int p5), .val (.int p6), .val (.double (FP.i2d p3)), .second, .val (.double (FP.i2d p4)), .second, .val (.double (FP.i2d p5)), .second, .val (.double (FP.i2d p6)), .second, .val (.int (0 : Int32)), .val (.ref b52), .val (.ref b_58), .unset] [])) _
          refine XS.iload X58.here hx rfl (hb hby at_135) rfl ?_
          show Steps p.tables e below (T58.setTop (mkF m 137 #[.val (.int p1), .val (.int p2), .val (.int p3), .val (.int p4), .val (.int p5), .val (.int p6), .val (.double (FP.i2d p3)), .second, .val (.double (FP.i2d p4)), .second, .val (.double (FP.i2d p5)), .second, .val (.double (FP.i2d p6)), .second, .val (.int (0 : Int32)), .val (.ref b52), .val (.ref b_58), .unset] [(.int (0 : Int32))])) _
          refine XS.iconst X58.here hx rfl (hb hby at_137) ?_
          show Steps p.tables e below (T58.setTop (mkF m 138 #[.val (.int p1), .val (.int p2), .val (.int p3), .val (.int p4), .val (.int p5), .val (.int p6), .val (.double (FP.i2d p3)), .second, .val (.double (FP.i2d p4)), .second, .val (.double (FP.i2d p5)), .second, .val (.double (FP.i2d p6)), .second, .val (.int (0 : Int32)), .val (.ref b52), .val (.ref b_58), .unset] [(.int (2 : Int32)), (.int (0 : Int32))])) _
          refine XS.icmpYes X58.here hx rfl (pc0 := 138) (pc' := 153) rfl (hb hby at_138) rfl (flt ((by decide) : ¬ ((2 : Int32) < (0 : Int32)))).2.2.2 (by decide) (by decide) ?_
          show Steps p.tables e below (T58.setTop (mkF m 153 #[.val (.int p1), .val (.int p2), .val (.int p3), .val (.int p4), .val (.int p5), .val (.int p6), .val (.double (FP.i2d p3)), .second, .val (.double (FP.i2d p4)), .second, .val (.double (FP.i2d p5)), .second, .val (.double (FP.i2d p6)), .second, .val (.int (0 : Int32)), .val (.ref b52), .val (.ref b_58), .unset] [])) _
          refine XS.iload X58.here hx rfl (hb hby at_153) rfl ?_
          show Steps p.tables e below (T58.setTop (mkF m 155 #[.val (.int p1), .val (.int p2), .val (.int p3), .val (.int p4), .val (.int p5), .val (.int p6), .val (.double (FP.i2d p3)), .second, .val (.double (FP.i2d p4)), .second, .val (.double (FP.i2d p5)), .second, .val (.double (FP.i2d p6)), .second, .val (.int (0 : Int32)), .val (.ref b52), .val (.ref b_58), .unset] [(.int (0 : Int32))])) _
          refine XS.iconst X58.here hx rfl (hb hby at_155) ?_
          show Steps p.tables e below (T58.setTop (mkF m 156 #[.val (.int p1), .val (.int p2), .val (.int p3), .val (.int p4), .val (.int p5), .val (.int p6), .val (.double (FP.i2d p3)), .second, .val (.double (FP.i2d p4)), .second, .val (.double (FP.i2d p5)), .second, .val (.double (FP.i2d p6)), .second, .val (.int (0 : Int32)), .val (.ref b52), .val (.ref b_58), .unset] [(.int (3 : Int32)), (.int (0 : Int32))])) _
          refine XS.icmpYes X58.here hx rfl (pc0 := 156) (pc' := 171) rfl (hb hby at_156) rfl (flt ((by decide) : ¬ ((3 : Int32) < (0 : Int32)))).2.2.2 (by decide) (by decide) ?_
          show Steps p.tables e below (T58.setTop (mkF m 171 #[.val (.int p1), .val (.int p2), .val (.int p3), .val (.int p4), .val (.int p5), .val (.int p6), .val (.double (FP.i2d p3)), .second, .val (.double (FP.i2d p4)), .second, .val (.double (FP.i2d p5)), .second, .val (.double (FP.i2d p6)), .second, .val (.int (0 : Int32)), .val (.ref b52), .val (.ref b_58), .unset] [])) _
          refine XS.iconst X58.here hx rfl (hb hby at_171) ?_
          exact kt)
      obtain ⟨fs, hr, hrun, hended, hW, hsame⟩ := X58.leave (v := some (.int (1 : Int32))) (fun h => by rw [Bd.returns] at h; cases h)
      refine ⟨_, _, pre67 _ ?_, hrun, hended, _, _, rfl, ?_, ⟨_, rfl⟩, hW, hsame.mono (by decide) (by decide)⟩
      · show Steps p.tables e below (T58.setTop (mkF m 172 #[.val (.int p1), .val (.int p2), .val (.int p3), .val (.int p4), .val (.int p5), .val (.int p6), .val (.double (FP.i2d p3)), .second, .val (.double (FP.i2d p4)), .second, .val (.double (FP.i2d p5)), .second, .val (.double (FP.i2d p6)), .second, .val (.int (0 : Int32)), .val (.ref b52), .val (.ref b_58), .unset] [(.int (1 : Int32))])) _
        exact retN X58 hx (t := .boolean) Bd.returns (by simp) (hb hby at_172) hr
      · show Q0 Z p1 p2 p3 p4 p5 p6 h0 n0 _ T58.heap _
        exact ⟨rfl, N58⟩
    · skip
      obtain ⟨T68, h68, k68, X68, e68, E68, A68, st68⟩ := newP X0 hx hZ (hw _ (List.mem_of_getElem? (i := 4) rfl)) e0 (g := (mkF m 33 #[.val (.int p1), .val (.int p2), .val (.int p3), .val (.int p4), .val (.int p5), .val (.int p6), .val (.double (FP.i2d p3)), .second, .val (.double (FP.i2d p4)), .second, .val (.double (FP.i2d p5)), .second, .val (.double (FP.i2d p6)), .second, .val (.int (1 : Int32)), .unset, .unset, .unset] [(.int (1 : Int32))])) rfl (hb hby at_33) rfl (by decide) (cap := 1) (by decide) (by decide) (by decide) (by decide)
      obtain ⟨b68, g68⟩ : ∃ z, z = h0.size := ⟨_, rfl⟩
      rw [← g68] at A68 st68
      have g_b68 : n0 ≤ b68 := Nat.le_trans Z0 (Nat.le_of_eq g68.symm)
      have z69 : n0 ≤ h68.size := Nat.le_trans Z0 E68.1
      have V68 : Arv Z h68 b68 k68 .double (1 : Int32) [(.double (0 : UInt64))] (.double (0 : UInt64)) := (Arv.new A68 (by decide)).pad (pad_rep [] (.double (0 : UInt64)) 1)
      obtain ⟨cl70, Ar70, Q70, S70, M70, H70, G70⟩ := id V68
      have in71 : ¬ ((0 : Int32) < 0 ∨ cl70.slots.size ≤ ((0 : Int32)).toNatClampNeg) := inb_of S70 ⟨by decide, by decide⟩
      obtain ⟨T72, h72, X72, e72, W72, st72⟩ := stD X68 hx hZ e68 Ar70 (j := (0 : Int32)) in71 (g := (mkF m 39 #[.val (.int p1), .val (.int p2), .val (.int p3), .val (.int p4), .val (.int p5), .val (.int p6), .val (.double (FP.i2d p3)), .second, .val (.double (FP.i2d p4)), .second, .val (.double (FP.i2d p5)), .second, .val (.double (FP.i2d p6)), .second, .val (.int (1 : Int32)), .unset, .unset, .unset] [(.double (FP.i2d p3)), (.int (0 : Int32)), (.ref b68), (.ref b68)])) rfl rfl (hb hby at_39)
      have z73 : n0 ≤ h72.size := Nat.le_trans z69 (Keep.of_wr W72).1
      have V72 : Arv Z h72 b68 k68 .double (1 : Int32) [(.double (FP.i2d p3))] (.double (0 : UInt64)) := Arv.set Ar70 Q70 S70 M70 H70 G70 rfl W72 0 rfl (Nat.le_of_ble_eq_true rfl)
      have N72 : Fr n0 _ := Fr.snoc X72 N0 g_b68
      obtain ⟨_, _, ⟨T74, L74, kk74, nn74⟩, -, X74, ⟨Lc74, hQ74, l74, y74, z74⟩, st74⟩ := Jvm.LawKit.callS X72 hx (y := (⟨"com/example/manyfront/manyfront/cli/ReferencePoint", "fit", "([DI)[D"⟩ : MethodName)) hown (mvT hZ (hw _ (List.mem_of_getElem? (i := 5) rfl))) (mvT hZ (hw _ (List.mem_of_getElem? (i := 6) rfl))) (mvT hZ (hw _ (List.mem_of_getElem? (i := 7) rfl))) (mvT hZ (hw _ (List.mem_of_getElem? (i := 8) rfl))) (by decide) (backOf (W := 0) (rmfitN1 l Z a0 hw [] b68 (FP.i2d p3) k68 h72 n0 z73 V72) hZ (hw _ (List.mem_of_getElem? (i := 8) rfl)) (hw _ (List.mem_of_getElem? (i := 7) rfl)) (by decide) (by decide)) (g := (mkF m 46 #[.val (.int p1), .val (.int p2), .val (.int p3), .val (.int p4), .val (.int p5), .val (.int p6), .val (.double (FP.i2d p3)), .second, .val (.double (FP.i2d p4)), .second, .val (.double (FP.i2d p5)), .second, .val (.double (FP.i2d p6)), .second, .val (.int (1 : Int32)), .val (.ref b68), .unset, .unset] [(.int (1 : Int32)), (.ref b68)])) rfl (by rw [hml]; rfl) (argsL := [(.ref b68), (.int (1 : Int32))]) (rest := []) (lenOf pd__28_5bDI_29_5bD rfl) rfl (by show 2 * 0 + _ ≤ _; exact Nat.le_of_eq rfl) (hb hby at_46) (fun _ _ => ⟨rfl, e72, (by decide : 1 + 1 ≤ _), (by decide : 1 + 1 ≤ _)⟩)
      dsimp only [Pt.U, Pt.locs, Pt.cells, Pt.slots] at X74 l74 y74 z74 st74 hQ74
      subst l74 y74 z74
      obtain ⟨b_74, kb_74, rfl, N74q, K74, x74_0, x74_1⟩ := hQ74
      have N74 := Fr.app N72 N74q
      have ne75 : b68 ≠ b_74 := Nat.ne_of_lt (Nat.lt_of_lt_of_le V72.lt x74_0)
      have g_b_74 : n0 ≤ b_74 := Nat.le_trans z73 x74_0
      have z76 : n0 ≤ T74.heap.size := Nat.le_trans z73 K74.1
      obtain ⟨cl77, Ar77, Q77, S77, M77, H77, G77⟩ := id x74_1
      have f78 : Arv Z T74.heap b68 k68 .double (1 : Int32) [(.double (FP.i2d p3))] (.double (0 : UInt64)) := (V72.keep K74 own_nm0)
      obtain ⟨cl79, Ar79, Q79, S79, M79, H79, G79⟩ := id f78
      obtain ⟨cl80, Ar80, Q80, S80, M80, H80, G80⟩ := id f78
      have in81 : ¬ ((0 : Int32) < 0 ∨ cl80.slots.size ≤ ((0 : Int32)).toNatClampNeg) := inb_of S80 ⟨by decide, by decide⟩
      have at82 : cl80.slots[((0 : Int32)).toNatClampNeg]? = some (.double (FP.i2d p3)) := H80 0 (by rw [S80]; decide)
      obtain ⟨cl83, Ar83, Q83, S83, M83, H83, G83⟩ := id x74_1
      have in84 : ¬ ((0 : Int32) < 0 ∨ cl83.slots.size ≤ ((0 : Int32)).toNatClampNeg) := inb_of S83 ⟨by decide, by decide⟩
      have at85 : cl83.slots[((0 : Int32)).toNatClampNeg]? = some (.double (FP.i2d p3)) := H83 0 (by rw [S83]; decide)
      have pre86 : ∀ t, Steps p.tables e below (T74.setTop (mkF m 172 #[.val (.int p1), .val (.int p2), .val (.int p3), .val (.int p4), .val (.int p5), .val (.int p6), .val (.double (FP.i2d p3)), .second, .val (.double (FP.i2d p4)), .second, .val (.double (FP.i2d p5)), .second, .val (.double (FP.i2d p6)), .second, .val (.int (1 : Int32)), .val (.ref b68), .val (.ref b_74), .unset] [(.int (1 : Int32))])) t → Steps p.tables e below (s₁.setTop (entryFrame m #[(.int p1), (.int p2), (.int p3), (.int p4), (.int p5), (.int p6)] maxLocals)) t := fun t kt => pre51 t (by
          show Steps p.tables e below (s₁.setTop (mkF m 24 #[.val (.int p1), .val (.int p2), .val (.int p3), .val (.int p4), .val (.int p5), .val (.int p6), .val (.double (FP.i2d p3)), .second, .val (.double (FP.i2d p4)), .second, .val (.double (FP.i2d p5)), .second, .val (.double (FP.i2d p6)), .second, .unset, .unset, .unset, .unset] [])) _
          refine XS.iloadN X0.here hx rfl (hb hby at_24) rfl ?_
          show Steps p.tables e below (s₁.setTop (mkF m 25 #[.val (.int p1), .val (.int p2), .val (.int p3), .val (.int p4), .val (.int p5), .val (.int p6), .val (.double (FP.i2d p3)), .second, .val (.double (FP.i2d p4)), .second, .val (.double (FP.i2d p5)), .second, .val (.double (FP.i2d p6)), .second, .unset, .unset, .unset, .unset] [(.int p2)])) _
          refine X0.ldcInt hx hown (mvT hZ (hw _ (List.mem_of_getElem? (i := 9) rfl))) (g := (mkF m 25 #[.val (.int p1), .val (.int p2), .val (.int p3), .val (.int p4), .val (.int p5), .val (.int p6), .val (.double (FP.i2d p3)), .second, .val (.double (FP.i2d p4)), .second, .val (.double (FP.i2d p5)), .second, .val (.double (FP.i2d p6)), .second, .unset, .unset, .unset, .unset] [(.int p2)])) rfl (hb hby at_25) _ ?_
          show Steps p.tables e below (s₁.setTop (mkF m 27 #[.val (.int p1), .val (.int p2), .val (.int p3), .val (.int p4), .val (.int p5), .val (.int p6), .val (.double (FP.i2d p3)), .second, .val (.double (FP.i2d p4)), .second, .val (.double (FP.i2d p5)), .second, .val (.double (FP.i2d p6)), .second, .unset, .unset, .unset, .unset] [(.int (2147483647 : Int32)), (.int p2)])) _
          refine XS.iand X0.here hx rfl (hb hby at_27) rfl ?_
          show Steps p.tables e below (s₁.setTop (mkF m 28 #[.val (.int p1), .val (.int p2), .val (.int p3), .val (.int p4), .val (.int p5), .val (.int p6), .val (.double (FP.i2d p3)), .second, .val (.double (FP.i2d p4)), .second, .val (.double (FP.i2d p5)), .second, .val (.double (FP.i2d p6)), .second, .unset, .unset, .unset, .unset] [(.int (p2 &&& (2147483647 : Int32)))])) _
          refine XS.iconst X0.here hx rfl (hb hby at_28) ?_
          show Steps p.tables e below (s₁.setTop (mkF m 29 #[.val (.int p1), .val (.int p2), .val (.int p3), .val (.int p4), .val (.int p5), .val (.int p6), .val (.double (FP.i2d p3)), .second, .val (.double (FP.i2d p4)), .second, .val (.double (FP.i2d p5)), .second, .val (.double (FP.i2d p6)), .second, .unset, .unset, .unset, .unset] [(.int (5 : Int32)), (.int (p2 &&& (2147483647 : Int32)))])) _
          refine iremM X0 hx rfl (hb hby at_29) rfl (by decide) ?_
          show Steps p.tables e below (s₁.setTop (mkF m 30 #[.val (.int p1), .val (.int p2), .val (.int p3), .val (.int p4), .val (.int p5), .val (.int p6), .val (.double (FP.i2d p3)), .second, .val (.double (FP.i2d p4)), .second, .val (.double (FP.i2d p5)), .second, .val (.double (FP.i2d p6)), .second, .unset, .unset, .unset, .unset] [(.int ((p2 &&& (2147483647 : Int32)) % (5 : Int32)))])) _
          rw [hk]
          show Steps p.tables e below (s₁.setTop (mkF m 30 #[.val (.int p1), .val (.int p2), .val (.int p3), .val (.int p4), .val (.int p5), .val (.int p6), .val (.double (FP.i2d p3)), .second, .val (.double (FP.i2d p4)), .second, .val (.double (FP.i2d p5)), .second, .val (.double (FP.i2d p6)), .second, .unset, .unset, .unset, .unset] [(.int (1 : Int32))])) _
          refine XS.istore X0.here hx rfl (hb hby at_30) rfl (l' := #[.val (.int p1), .val (.int p2), .val (.int p3), .val (.int p4), .val (.int p5), .val (.int p6), .val (.double (FP.i2d p3)), .second, .val (.double (FP.i2d p4)), .second, .val (.double (FP.i2d p5)), .second, .val (.double (FP.i2d p6)), .second, .val (.int (1 : Int32)), .unset, .unset, .unset]) rfl ?_
          show Steps p.tables e below (s₁.setTop (mkF m 32 #[.val (.int p1), .val (.int p2), .val (.int p3), .val (.int p4), .val (.int p5), .val (.int p6), .val (.double (FP.i2d p3)), .second, .val (.double (FP.i2d p4)), .second, .val (.double (FP.i2d p5)), .second, .val (.double (FP.i2d p6)), .second, .val (.int (1 : Int32)), .unset, .unset, .unset] [])) _
          refine XS.iconst X0.here hx rfl (hb hby at_32) ?_
          show Steps p.tables e below (s₁.setTop (mkF m 33 #[.val (.int p1), .val (.int p2), .val (.int p3), .val (.int p4), .val (.int p5), .val (.int p6), .val (.double (FP.i2d p3)), .second, .val (.double (FP.i2d p4)), .second, .val (.double (FP.i2d p5)), .second, .val (.double (FP.i2d p6)), .second, .val (.int (1 : Int32)), .unset, .unset, .unset] [(.int (1 : Int32))])) _
          refine st68 _ ?_
          show Steps p.tables e below (T68.setTop (mkF m 35 #[.val (.int p1), .val (.int p2), .val (.int p3), .val (.int p4), .val (.int p5), .val (.int p6), .val (.double (FP.i2d p3)), .second, .val (.double (FP.i2d p4)), .second, .val (.double (FP.i2d p5)), .second, .val (.double (FP.i2d p6)), .second, .val (.int (1 : Int32)), .unset, .unset, .unset] [(.ref b68)])) _
          refine XS.dup X68.here hx rfl (hb hby at_35) rfl rfl ?_
          show Steps p.tables e below (T68.setTop (mkF m 36 #[.val (.int p1), .val (.int p2), .val (.int p3), .val (.int p4), .val (.int p5), .val (.int p6), .val (.double (FP.i2d p3)), .second, .val (.double (FP.i2d p4)), .second, .val (.double (FP.i2d p5)), .second, .val (.double (FP.i2d p6)), .second, .val (.int (1 : Int32)), .unset, .unset, .unset] [(.ref b68), (.ref b68)])) _
          refine XS.iconst X68.here hx rfl (hb hby at_36) ?_
          show Steps p.tables e below (T68.setTop (mkF m 37 #[.val (.int p1), .val (.int p2), .val (.int p3), .val (.int p4), .val (.int p5), .val (.int p6), .val (.double (FP.i2d p3)), .second, .val (.double (FP.i2d p4)), .second, .val (.double (FP.i2d p5)), .second, .val (.double (FP.i2d p6)), .second, .val (.int (1 : Int32)), .unset, .unset, .unset] [(.int (0 : Int32)), (.ref b68), (.ref b68)])) _
          refine XS.dload X68.here hx rfl (hb hby at_37) rfl ?_
          show Steps p.tables e below (T68.setTop (mkF m 39 #[.val (.int p1), .val (.int p2), .val (.int p3), .val (.int p4), .val (.int p5), .val (.int p6), .val (.double (FP.i2d p3)), .second, .val (.double (FP.i2d p4)), .second, .val (.double (FP.i2d p5)), .second, .val (.double (FP.i2d p6)), .second, .val (.int (1 : Int32)), .unset, .unset, .unset] [(.double (FP.i2d p3)), (.int (0 : Int32)), (.ref b68), (.ref b68)])) _
          refine st72 _ ?_
          show Steps p.tables e below (T72.setTop (mkF m 40 #[.val (.int p1), .val (.int p2), .val (.int p3), .val (.int p4), .val (.int p5), .val (.int p6), .val (.double (FP.i2d p3)), .second, .val (.double (FP.i2d p4)), .second, .val (.double (FP.i2d p5)), .second, .val (.double (FP.i2d p6)), .second, .val (.int (1 : Int32)), .unset, .unset, .unset] [(.ref b68)])) _
          refine XS.astore X72.here hx rfl (hb hby at_40) rfl rfl (l' := #[.val (.int p1), .val (.int p2), .val (.int p3), .val (.int p4), .val (.int p5), .val (.int p6), .val (.double (FP.i2d p3)), .second, .val (.double (FP.i2d p4)), .second, .val (.double (FP.i2d p5)), .second, .val (.double (FP.i2d p6)), .second, .val (.int (1 : Int32)), .val (.ref b68), .unset, .unset]) rfl ?_
          show Steps p.tables e below (T72.setTop (mkF m 42 #[.val (.int p1), .val (.int p2), .val (.int p3), .val (.int p4), .val (.int p5), .val (.int p6), .val (.double (FP.i2d p3)), .second, .val (.double (FP.i2d p4)), .second, .val (.double (FP.i2d p5)), .second, .val (.double (FP.i2d p6)), .second, .val (.int (1 : Int32)), .val (.ref b68), .unset, .unset] [])) _
          refine XS.aload X72.here hx rfl (hb hby at_42) rfl rfl ?_
          show Steps p.tables e below (T72.setTop (mkF m 44 #[.val (.int p1), .val (.int p2), .val (.int p3), .val (.int p4), .val (.int p5), .val (.int p6), .val (.double (FP.i2d p3)), .second, .val (.double (FP.i2d p4)), .second, .val (.double (FP.i2d p5)), .second, .val (.double (FP.i2d p6)), .second, .val (.int (1 : Int32)), .val (.ref b68), .unset, .unset] [(.ref b68)])) _
          refine XS.iload X72.here hx rfl (hb hby at_44) rfl ?_
          show Steps p.tables e below (T72.setTop (mkF m 46 #[.val (.int p1), .val (.int p2), .val (.int p3), .val (.int p4), .val (.int p5), .val (.int p6), .val (.double (FP.i2d p3)), .second, .val (.double (FP.i2d p4)), .second, .val (.double (FP.i2d p5)), .second, .val (.double (FP.i2d p6)), .second, .val (.int (1 : Int32)), .val (.ref b68), .unset, .unset] [(.int (1 : Int32)), (.ref b68)])) _
          refine st74 _ ?_
          show Steps p.tables e below (T74.setTop (mkF m 49 #[.val (.int p1), .val (.int p2), .val (.int p3), .val (.int p4), .val (.int p5), .val (.int p6), .val (.double (FP.i2d p3)), .second, .val (.double (FP.i2d p4)), .second, .val (.double (FP.i2d p5)), .second, .val (.double (FP.i2d p6)), .second, .val (.int (1 : Int32)), .val (.ref b68), .unset, .unset] [(.ref b_74)])) _
          refine XS.astore X74.here hx rfl (hb hby at_49) rfl rfl (l' := #[.val (.int p1), .val (.int p2), .val (.int p3), .val (.int p4), .val (.int p5), .val (.int p6), .val (.double (FP.i2d p3)), .second, .val (.double (FP.i2d p4)), .second, .val (.double (FP.i2d p5)), .second, .val (.double (FP.i2d p6)), .second, .val (.int (1 : Int32)), .val (.ref b68), .val (.ref b_74), .unset]) rfl ?_
          show Steps p.tables e below (T74.setTop (mkF m 51 #[.val (.int p1), .val (.int p2), .val (.int p3), .val (.int p4), .val (.int p5), .val (.int p6), .val (.double (FP.i2d p3)), .second, .val (.double (FP.i2d p4)), .second, .val (.double (FP.i2d p5)), .second, .val (.double (FP.i2d p6)), .second, .val (.int (1 : Int32)), .val (.ref b68), .val (.ref b_74), .unset] [])) _
          refine XS.aload X74.here hx rfl (hb hby at_51) rfl rfl ?_
          show Steps p.tables e below (T74.setTop (mkF m 53 #[.val (.int p1), .val (.int p2), .val (.int p3), .val (.int p4), .val (.int p5), .val (.int p6), .val (.double (FP.i2d p3)), .second, .val (.double (FP.i2d p4)), .second, .val (.double (FP.i2d p5)), .second, .val (.double (FP.i2d p6)), .second, .val (.int (1 : Int32)), .val (.ref b68), .val (.ref b_74), .unset] [(.ref b_74)])) _
          refine XS.ifnullNo X74.here hx rfl (hb hby at_53) rfl ?_
          show Steps p.tables e below (T74.setTop (mkF m 56 #[.val (.int p1), .val (.int p2), .val (.int p3), .val (.int p4), .val (.int p5), .val (.int p6), .val (.double (FP.i2d p3)), .second, .val (.double (FP.i2d p4)), .second, .val (.double (FP.i2d p5)), .second, .val (.double (FP.i2d p6)), .second, .val (.int (1 : Int32)), .val (.ref b68), .val (.ref b_74), .unset] [])) _
          refine XS.aload X74.here hx rfl (hb hby at_56) rfl rfl ?_
          show Steps p.tables e below (T74.setTop (mkF m 58 #[.val (.int p1), .val (.int p2), .val (.int p3), .val (.int p4), .val (.int p5), .val (.int p6), .val (.double (FP.i2d p3)), .second, .val (.double (FP.i2d p4)), .second, .val (.double (FP.i2d p5)), .second, .val (.double (FP.i2d p6)), .second, .val (.int (1 : Int32)), .val (.ref b68), .val (.ref b_74), .unset] [(.ref b_74)])) _
          refine X74.arraylength hx (cell := cl77) Ar77.1 (State.isArrayOf_alike hZ.alike Ar77.2.1) (g := (mkF m 58 #[.val (.int p1), .val (.int p2), .val (.int p3), .val (.int p4), .val (.int p5), .val (.int p6), .val (.double (FP.i2d p3)), .second, .val (.double (FP.i2d p4)), .second, .val (.double (FP.i2d p5)), .second, .val (.double (FP.i2d p6)), .second, .val (.int (1 : Int32)), .val (.ref b68), .val (.ref b_74), .unset] [(.ref b_74)])) rfl rfl (hb hby at_58) _ ?_
          rw [len_of S77 M77]
          show Steps p.tables e below (T74.setTop (mkF m 59 #[.val (.int p1), .val (.int p2), .val (.int p3), .val (.int p4), .val (.int p5), .val (.int p6), .val (.double (FP.i2d p3)), .second, .val (.double (FP.i2d p4)), .second, .val (.double (FP.i2d p5)), .second, .val (.double (FP.i2d p6)), .second, .val (.int (1 : Int32)), .val (.ref b68), .val (.ref b_74), .unset] [(.int (1 : Int32))])) _
          refine XS.iload X74.here hx rfl (hb hby at_59) rfl ?_
          show Steps p.tables e below (T74.setTop (mkF m 61 #[.val (.int p1), .val (.int p2), .val (.int p3), .val (.int p4), .val (.int p5), .val (.int p6), .val (.double (FP.i2d p3)), .second, .val (.double (FP.i2d p4)), .second, .val (.double (FP.i2d p5)), .second, .val (.double (FP.i2d p6)), .second, .val (.int (1 : Int32)), .val (.ref b68), .val (.ref b_74), .unset] [(.int (1 : Int32)), (.int (1 : Int32))])) _
          refine XS.icmpYes X74.here hx rfl (pc0 := 61) (pc' := 66) rfl (hb hby at_61) rfl (teq ((by decide) : (1 : Int32) = (1 : Int32))).1 (by decide) (by decide) ?_
          show Steps p.tables e below (T74.setTop (mkF m 66 #[.val (.int p1), .val (.int p2), .val (.int p3), .val (.int p4), .val (.int p5), .val (.int p6), .val (.double (FP.i2d p3)), .second, .val (.double (FP.i2d p4)), .second, .val (.double (FP.i2d p5)), .second, .val (.double (FP.i2d p6)), .second, .val (.int (1 : Int32)), .val (.ref b68), .val (.ref b_74), .unset] [])) _
          refine XS.iload X74.here hx rfl (hb hby at_66) rfl ?_
          show Steps p.tables e below (T74.setTop (mkF m 68 #[.val (.int p1), .val (.int p2), .val (.int p3), .val (.int p4), .val (.int p5), .val (.int p6), .val (.double (FP.i2d p3)), .second, .val (.double (FP.i2d p4)), .second, .val (.double (FP.i2d p5)), .second, .val (.double (FP.i2d p6)), .second, .val (.int (1 : Int32)), .val (.ref b68), .val (.ref b_74), .unset] [(.int (1 : Int32))])) _
          refine XS.iconst X74.here hx rfl (hb hby at_68) ?_
          show Steps p.tables e below (T74.setTop (mkF m 69 #[.val (.int p1), .val (.int p2), .val (.int p3), .val (.int p4), .val (.int p5), .val (.int p6), .val (.double (FP.i2d p3)), .second, .val (.double (FP.i2d p4)), .second, .val (.double (FP.i2d p5)), .second, .val (.double (FP.i2d p6)), .second, .val (.int (1 : Int32)), .val (.ref b68), .val (.ref b_74), .unset] [(.int (1 : Int32)), (.int (1 : Int32))])) _
          refine XS.icmpYes X74.here hx rfl (pc0 := 69) (pc' := 81) rfl (hb hby at_69) rfl (teq ((by decide) : (1 : Int32) = (1 : Int32))).1 (by decide) (by decide) ?_
          show Steps p.tables e below (T74.setTop (mkF m 81 #[.val (.int p1), .val (.int p2), .val (.int p3), .val (.int p4), .val (.int p5), .val (.int p6), .val (.double (FP.i2d p3)), .second, .val (.double (FP.i2d p4)), .second, .val (.double (FP.i2d p5)), .second, .val (.double (FP.i2d p6)), .second, .val (.int (1 : Int32)), .val (.ref b68), .val (.ref b_74), .unset] [])) _
          refine XS.aload X74.here hx rfl (hb hby at_81) rfl rfl ?_
          show Steps p.tables e below (T74.setTop (mkF m 83 #[.val (.int p1), .val (.int p2), .val (.int p3), .val (.int p4), .val (.int p5), .val (.int p6), .val (.double (FP.i2d p3)), .second, .val (.double (FP.i2d p4)), .second, .val (.double (FP.i2d p5)), .second, .val (.double (FP.i2d p6)), .second, .val (.int (1 : Int32)), .val (.ref b68), .val (.ref b_74), .unset] [(.ref b68)])) _
          refine X74.arraylength hx (cell := cl79) Ar79.1 (State.isArrayOf_alike hZ.alike Ar79.2.1) (g := (mkF m 83 #[.val (.int p1), .val (.int p2), .val (.int p3), .val (.int p4), .val (.int p5), .val (.int p6), .val (.double (FP.i2d p3)), .second, .val (.double (FP.i2d p4)), .second, .val (.double (FP.i2d p5)), .second, .val (.double (FP.i2d p6)), .second, .val (.int (1 : Int32)), .val (.ref b68), .val (.ref b_74), .unset] [(.ref b68)])) rfl rfl (hb hby at_83) _ ?_
          rw [len_of S79 M79]
          show Steps p.tables e below (T74.setTop (mkF m 84 #[.val (.int p1), .val (.int p2), .val (.int p3), .val (.int p4), .val (.int p5), .val (.int p6), .val (.double (FP.i2d p3)), .second, .val (.double (FP.i2d p4)), .second, .val (.double (FP.i2d p5)), .second, .val (.double (FP.i2d p6)), .second, .val (.int (1 : Int32)), .val (.ref b68), .val (.ref b_74), .unset] [(.int (1 : Int32))])) _
          refine XS.iconst X74.here hx rfl (hb hby at_84) ?_
          show Steps p.tables e below (T74.setTop (mkF m 85 #[.val (.int p1), .val (.int p2), .val (.int p3), .val (.int p4), .val (.int p5), .val (.int p6), .val (.double (FP.i2d p3)), .second, .val (.double (FP.i2d p4)), .second, .val (.double (FP.i2d p5)), .second, .val (.double (FP.i2d p6)), .second, .val (.int (1 : Int32)), .val (.ref b68), .val (.ref b_74), .unset] [(.int (1 : Int32)), (.int (1 : Int32))])) _
          refine XS.icmpNo X74.here hx rfl (hb hby at_85) rfl (teq ((by decide) : (1 : Int32) = (1 : Int32))).2 ?_
          show Steps p.tables e below (T74.setTop (mkF m 88 #[.val (.int p1), .val (.int p2), .val (.int p3), .val (.int p4), .val (.int p5), .val (.int p6), .val (.double (FP.i2d p3)), .second, .val (.double (FP.i2d p4)), .second, .val (.double (FP.i2d p5)), .second, .val (.double (FP.i2d p6)), .second, .val (.int (1 : Int32)), .val (.ref b68), .val (.ref b_74), .unset] [])) _
          refine XS.aload X74.here hx rfl (hb hby at_88) rfl rfl ?_
          show Steps p.tables e below (T74.setTop (mkF m 90 #[.val (.int p1), .val (.int p2), .val (.int p3), .val (.int p4), .val (.int p5), .val (.int p6), .val (.double (FP.i2d p3)), .second, .val (.double (FP.i2d p4)), .second, .val (.double (FP.i2d p5)), .second, .val (.double (FP.i2d p6)), .second, .val (.int (1 : Int32)), .val (.ref b68), .val (.ref b_74), .unset] [(.ref b68)])) _
          refine XS.iconst X74.here hx rfl (hb hby at_90) ?_
          show Steps p.tables e below (T74.setTop (mkF m 91 #[.val (.int p1), .val (.int p2), .val (.int p3), .val (.int p4), .val (.int p5), .val (.int p6), .val (.double (FP.i2d p3)), .second, .val (.double (FP.i2d p4)), .second, .val (.double (FP.i2d p5)), .second, .val (.double (FP.i2d p6)), .second, .val (.int (1 : Int32)), .val (.ref b68), .val (.ref b_74), .unset] [(.int (0 : Int32)), (.ref b68)])) _
          refine X74.daload hx (j := (0 : Int32)) (v := (.double (FP.i2d p3))) Ar80.1 (State.isArrayOf_alike hZ.alike Ar80.2.1) Ar80.2.2 in81 at82 (g := (mkF m 91 #[.val (.int p1), .val (.int p2), .val (.int p3), .val (.int p4), .val (.int p5), .val (.int p6), .val (.double (FP.i2d p3)), .second, .val (.double (FP.i2d p4)), .second, .val (.double (FP.i2d p5)), .second, .val (.double (FP.i2d p6)), .second, .val (.int (1 : Int32)), .val (.ref b68), .val (.ref b_74), .unset] [(.int (0 : Int32)), (.ref b68)])) rfl rfl (hb hby at_91) _ ?_
          show Steps p.tables e below (T74.setTop (mkF m 92 #[.val (.int p1), .val (.int p2), .val (.int p3), .val (.int p4), .val (.int p5), .val (.int p6), .val (.double (FP.i2d p3)), .second, .val (.double (FP.i2d p4)), .second, .val (.double (FP.i2d p5)), .second, .val (.double (FP.i2d p6)), .second, .val (.int (1 : Int32)), .val (.ref b68), .val (.ref b_74), .unset] [(.double (FP.i2d p3))])) _
          refine XS.dload X74.here hx rfl (hb hby at_92) rfl ?_
          show Steps p.tables e below (T74.setTop (mkF m 94 #[.val (.int p1), .val (.int p2), .val (.int p3), .val (.int p4), .val (.int p5), .val (.int p6), .val (.double (FP.i2d p3)), .second, .val (.double (FP.i2d p4)), .second, .val (.double (FP.i2d p5)), .second, .val (.double (FP.i2d p6)), .second, .val (.int (1 : Int32)), .val (.ref b68), .val (.ref b_74), .unset] [(.double (FP.i2d p3)), (.double (FP.i2d p3))])) _
          refine XS.dcmpS X74.here hx rfl (hb hby at_94) rfl (v := (0 : Int32)) (dcmpV_self (Fl.i2d_fin _).noNaN .l) ?_
          show Steps p.tables e below (T74.setTop (mkF m 95 #[.val (.int p1), .val (.int p2), .val (.int p3), .val (.int p4), .val (.int p5), .val (.int p6), .val (.double (FP.i2d p3)), .second, .val (.double (FP.i2d p4)), .second, .val (.double (FP.i2d p5)), .second, .val (.double (FP.i2d p6)), .second, .val (.int (1 : Int32)), .val (.ref b68), .val (.ref b_74), .unset] [(.int (0 : Int32))])) _
          refine XS.ifYes X74.here hx rfl (pc0 := 95) (pc' := 100) rfl (hb hby at_95) rfl ((if0 _ _).trans (teq ((by decide) : (0 : Int32) = (0 : Int32))).1) (by decide) (by decide) ?_
          show Steps p.tables e below (T74.setTop (mkF m 100 #[.val (.int p1), .val (.int p2), .val (.int p3), .val (.int p4), .val (.int p5), .val (.int p6), .val (.double (FP.i2d p3)), .second, .val (.double (FP.i2d p4)), .second, .val (.double (FP.i2d p5)), .second, .val (.double (FP.i2d p6)), .second, .val (.int (1 : Int32)), .val (.ref b68), .val (.ref b_74), .unset] [])) _
          refine XS.iload X74.here hx rfl (hb hby at_100) rfl ?_
          show Steps p.tables e below (T74.setTop (mkF m 102 #[.val (.int p1), .val (.int p2), .val (.int p3), .val (.int p4), .val (.int p5), .val (.int p6), .val (.double (FP.i2d p3)), .second, .val (.double (FP.i2d p4)), .second, .val (.double (FP.i2d p5)), .second, .val (.double (FP.i2d p6)), .second, .val (.int (1 : Int32)), .val (.ref b68), .val (.ref b_74), .unset] [(.int (1 : Int32))])) _
          refine XS.ifNo X74.here hx rfl (hb hby at_102) rfl ((if0 _ _).trans (tlt ((by decide) : (0 : Int32) < (1 : Int32))).2.2.2) ?_
          show Steps p.tables e below (T74.setTop (mkF m 105 #[.val (.int p1), .val (.int p2), .val (.int p3), .val (.int p4), .val (.int p5), .val (.int p6), .val (.double (FP.i2d p3)), .second, .val (.double (FP.i2d p4)), .second, .val (.double (FP.i2d p5)), .second, .val (.double (FP.i2d p6)), .second, .val (.int (1 : Int32)), .val (.ref b68), .val (.ref b_74), .unset] [])) _
          refine XS.aload X74.here hx rfl (hb hby at_105) rfl rfl ?_
          show Steps p.tables e below (T74.setTop (mkF m 107 #[.val (.int p1), .val (.int p2), .val (.int p3), .val (.int p4), .val (.int p5), .val (.int p6), .val (.double (FP.i2d p3)), .second, .val (.double (FP.i2d p4)), .second, .val (.double (FP.i2d p5)), .second, .val (.double (FP.i2d p6)), .second, .val (.int (1 : Int32)), .val (.ref b68), .val (.ref b_74), .unset] [(.ref b_74)])) _
          refine XS.iconst X74.here hx rfl (hb hby at_107) ?_
          show Steps p.tables e below (T74.setTop (mkF m 108 #[.val (.int p1), .val (.int p2), .val (.int p3), .val (.int p4), .val (.int p5), .val (.int p6), .val (.double (FP.i2d p3)), .second, .val (.double (FP.i2d p4)), .second, .val (.double (FP.i2d p5)), .second, .val (.double (FP.i2d p6)), .second, .val (.int (1 : Int32)), .val (.ref b68), .val (.ref b_74), .unset] [(.int (0 : Int32)), (.ref b_74)])) _
          refine X74.daload hx (j := (0 : Int32)) (v := (.double (FP.i2d p3))) Ar83.1 (State.isArrayOf_alike hZ.alike Ar83.2.1) Ar83.2.2 in84 at85 (g := (mkF m 108 #[.val (.int p1), .val (.int p2), .val (.int p3), .val (.int p4), .val (.int p5), .val (.int p6), .val (.double (FP.i2d p3)), .second, .val (.double (FP.i2d p4)), .second, .val (.double (FP.i2d p5)), .second, .val (.double (FP.i2d p6)), .second, .val (.int (1 : Int32)), .val (.ref b68), .val (.ref b_74), .unset] [(.int (0 : Int32)), (.ref b_74)])) rfl rfl (hb hby at_108) _ ?_
          show Steps p.tables e below (T74.setTop (mkF m 109 #[.val (.int p1), .val (.int p2), .val (.int p3), .val (.int p4), .val (.int p5), .val (.int p6), .val (.double (FP.i2d p3)), .second, .val (.double (FP.i2d p4)), .second, .val (.double (FP.i2d p5)), .second, .val (.double (FP.i2d p6)), .second, .val (.int (1 : Int32)), .val (.ref b68), .val (.ref b_74), .unset] [(.double (FP.i2d p3))])) _
          refine XS.dload X74.here hx rfl (hb hby at_109) rfl ?_
          show Steps p.tables e below (T74.setTop (mkF m 111 #[.val (.int p1), .val (.int p2), .val (.int p3), .val (.int p4), .val (.int p5), .val (.int p6), .val (.double (FP.i2d p3)), .second, .val (.double (FP.i2d p4)), .second, .val (.double (FP.i2d p5)), .second, .val (.double (FP.i2d p6)), .second, .val (.int (1 : Int32)), .val (.ref b68), .val (.ref b_74), .unset] [(.double (FP.i2d p3)), (.double (FP.i2d p3))])) _
          refine XS.dcmpS X74.here hx rfl (hb hby at_111) rfl (v := (0 : Int32)) (dcmpV_self (Fl.i2d_fin _).noNaN .l) ?_
          show Steps p.tables e below (T74.setTop (mkF m 112 #[.val (.int p1), .val (.int p2), .val (.int p3), .val (.int p4), .val (.int p5), .val (.int p6), .val (.double (FP.i2d p3)), .second, .val (.double (FP.i2d p4)), .second, .val (.double (FP.i2d p5)), .second, .val (.double (FP.i2d p6)), .second, .val (.int (1 : Int32)), .val (.ref b68), .val (.ref b_74), .unset] [(.int (0 : Int32))])) _
          refine XS.ifYes X74.here hx rfl (pc0 := 112) (pc' := 117) rfl (hb hby at_112) rfl ((if0 _ _).trans (teq ((by decide) : (0 : Int32) = (0 : Int32))).1) (by decide) (by decide) ?_
          show Steps p.tables e below (T74.setTop (mkF m 117 #[.val (.int p1), .val (.int p2), .val (.int p3), .val (.int p4), .val (.int p5), .val (.int p6), .val (.double (FP.i2d p3)), .second, .val (.double (FP.i2d p4)), .second, .val (.double (FP.i2d p5)), .second, .val (.double (FP.i2d p6)), .second, .val (.int (1 : Int32)), .val (.ref b68), .val (.ref b_74), .unset] [])) _
          refine XS.iload X74.here hx rfl (hb hby at_117) rfl ?_
          show Steps p.tables e below (T74.setTop (mkF m 119 #[.val (.int p1), .val (.int p2), .val (.int p3), .val (.int p4), .val (.int p5), .val (.int p6), .val (.double (FP.i2d p3)), .second, .val (.double (FP.i2d p4)), .second, .val (.double (FP.i2d p5)), .second, .val (.double (FP.i2d p6)), .second, .val (.int (1 : Int32)), .val (.ref b68), .val (.ref b_74), .unset] [(.int (1 : Int32))])) _
          refine XS.iconst X74.here hx rfl (hb hby at_119) ?_
          show Steps p.tables e below (T74.setTop (mkF m 120 #[.val (.int p1), .val (.int p2), .val (.int p3), .val (.int p4), .val (.int p5), .val (.int p6), .val (.double (FP.i2d p3)), .second, .val (.double (FP.i2d p4)), .second, .val (.double (FP.i2d p5)), .second, .val (.double (FP.i2d p6)), .second, .val (.int (1 : Int32)), .val (.ref b68), .val (.ref b_74), .unset] [(.int (1 : Int32)), (.int (1 : Int32))])) _
          refine XS.icmpYes X74.here hx rfl (pc0 := 120) (pc' := 135) rfl (hb hby at_120) rfl (flt ((by decide) : ¬ ((1 : Int32) < (1 : Int32)))).2.2.2 (by decide) (by decide) ?_
          show Steps p.tables e below (T74.setTop (mkF m 135 #[.val (.int p1), .val (.int p2), .val (.int p3), .val (.int p4), .val (.int p5), .val (.int p6), .val (.double (FP.i2d p3)), .second, .val (.double (FP.i2d p4)), .second, .val (.double (FP.i2d p5)), .second, .val (.double (FP.i2d p6)), .second, .val (.int (1 : Int32)), .val (.ref b68), .val (.ref b_74), .unset] [])) _
          refine XS.iload X74.here hx rfl (hb hby at_135) rfl ?_
          show Steps p.tables e below (T74.setTop (mkF m 137 #[.val (.int p1), .val (.int p2), .val (.int p3), .val (.int p4), .val (.int p5), .val (.int p6), .val (.double (FP.i2d p3)), .second, .val (.double (FP.i2d p4)), .second, .val (.double (FP.i2d p5)), .second, .val (.double (FP.i2d p6)), .second, .val (.int (1 : Int32)), .val (.ref b68), .val (.ref b_74), .unset] [(.int (1 : Int32))])) _
          refine XS.iconst X74.here hx rfl (hb hby at_137) ?_
          show Steps p.tables e below (T74.setTop (mkF m 138 #[.val (.int p1), .val (.int p2), .val (.int p3), .val (.int p4), .val (.int p5), .val (.int p6), .val (.double (FP.i2d p3)), .second, .val (.double (FP.i2d p4)), .second, .val (.double (FP.i2d p5)), .second, .val (.double (FP.i2d p6)), .second, .val (.int (1 : Int32)), .val (.ref b68), .val (.ref b_74), .unset] [(.int (2 : Int32)), (.int (1 : Int32))])) _
          refine XS.icmpYes X74.here hx rfl (pc0 := 138) (pc' := 153) rfl (hb hby at_138) rfl (flt ((by decide) : ¬ ((2 : Int32) < (1 : Int32)))).2.2.2 (by decide) (by decide) ?_
          show Steps p.tables e below (T74.setTop (mkF m 153 #[.val (.int p1), .val (.int p2), .val (.int p3), .val (.int p4), .val (.int p5), .val (.int p6), .val (.double (FP.i2d p3)), .second, .val (.double (FP.i2d p4)), .second, .val (.double (FP.i2d p5)), .second, .val (.double (FP.i2d p6)), .second, .val (.int (1 : Int32)), .val (.ref b68), .val (.ref b_74), .unset] [])) _
          refine XS.iload X74.here hx rfl (hb hby at_153) rfl ?_
          show Steps p.tables e below (T74.setTop (mkF m 155 #[.val (.int p1), .val (.int p2), .val (.int p3), .val (.int p4), .val (.int p5), .val (.int p6), .val (.double (FP.i2d p3)), .second, .val (.double (FP.i2d p4)), .second, .val (.double (FP.i2d p5)), .second, .val (.double (FP.i2d p6)), .second, .val (.int (1 : Int32)), .val (.ref b68), .val (.ref b_74), .unset] [(.int (1 : Int32))])) _
          refine XS.iconst X74.here hx rfl (hb hby at_155) ?_
          show Steps p.tables e below (T74.setTop (mkF m 156 #[.val (.int p1), .val (.int p2), .val (.int p3), .val (.int p4), .val (.int p5), .val (.int p6), .val (.double (FP.i2d p3)), .second, .val (.double (FP.i2d p4)), .second, .val (.double (FP.i2d p5)), .second, .val (.double (FP.i2d p6)), .second, .val (.int (1 : Int32)), .val (.ref b68), .val (.ref b_74), .unset] [(.int (3 : Int32)), (.int (1 : Int32))])) _
          refine XS.icmpYes X74.here hx rfl (pc0 := 156) (pc' := 171) rfl (hb hby at_156) rfl (flt ((by decide) : ¬ ((3 : Int32) < (1 : Int32)))).2.2.2 (by decide) (by decide) ?_
          show Steps p.tables e below (T74.setTop (mkF m 171 #[.val (.int p1), .val (.int p2), .val (.int p3), .val (.int p4), .val (.int p5), .val (.int p6), .val (.double (FP.i2d p3)), .second, .val (.double (FP.i2d p4)), .second, .val (.double (FP.i2d p5)), .second, .val (.double (FP.i2d p6)), .second, .val (.int (1 : Int32)), .val (.ref b68), .val (.ref b_74), .unset] [])) _
          refine XS.iconst X74.here hx rfl (hb hby at_171) ?_
          exact kt)
      obtain ⟨fs, hr, hrun, hended, hW, hsame⟩ := X74.leave (v := some (.int (1 : Int32))) (fun h => by rw [Bd.returns] at h; cases h)
      refine ⟨_, _, pre86 _ ?_, hrun, hended, _, _, rfl, ?_, ⟨_, rfl⟩, hW, hsame.mono (by decide) (by decide)⟩
      · show Steps p.tables e below (T74.setTop (mkF m 172 #[.val (.int p1), .val (.int p2), .val (.int p3), .val (.int p4), .val (.int p5), .val (.int p6), .val (.double (FP.i2d p3)), .second, .val (.double (FP.i2d p4)), .second, .val (.double (FP.i2d p5)), .second, .val (.double (FP.i2d p6)), .second, .val (.int (1 : Int32)), .val (.ref b68), .val (.ref b_74), .unset] [(.int (1 : Int32))])) _
        exact retN X74 hx (t := .boolean) Bd.returns (by simp) (hb hby at_172) hr
      · show Q0 Z p1 p2 p3 p4 p5 p6 h0 n0 _ T74.heap _
        exact ⟨rfl, N74⟩
    · skip
      obtain ⟨T87, h87, k87, X87, e87, E87, A87, st87⟩ := newP X0 hx hZ (hw _ (List.mem_of_getElem? (i := 4) rfl)) e0 (g := (mkF m 33 #[.val (.int p1), .val (.int p2), .val (.int p3), .val (.int p4), .val (.int p5), .val (.int p6), .val (.double (FP.i2d p3)), .second, .val (.double (FP.i2d p4)), .second, .val (.double (FP.i2d p5)), .second, .val (.double (FP.i2d p6)), .second, .val (.int (2 : Int32)), .unset, .unset, .unset] [(.int (1 : Int32))])) rfl (hb hby at_33) rfl (by decide) (cap := 1) (by decide) (by decide) (by decide) (by decide)
      obtain ⟨b87, g87⟩ : ∃ z, z = h0.size := ⟨_, rfl⟩
      rw [← g87] at A87 st87
      have g_b87 : n0 ≤ b87 := Nat.le_trans Z0 (Nat.le_of_eq g87.symm)
      have z88 : n0 ≤ h87.size := Nat.le_trans Z0 E87.1
      have V87 : Arv Z h87 b87 k87 .double (1 : Int32) [(.double (0 : UInt64))] (.double (0 : UInt64)) := (Arv.new A87 (by decide)).pad (pad_rep [] (.double (0 : UInt64)) 1)
      obtain ⟨cl89, Ar89, Q89, S89, M89, H89, G89⟩ := id V87
      have in90 : ¬ ((0 : Int32) < 0 ∨ cl89.slots.size ≤ ((0 : Int32)).toNatClampNeg) := inb_of S89 ⟨by decide, by decide⟩
      obtain ⟨T91, h91, X91, e91, W91, st91⟩ := stD X87 hx hZ e87 Ar89 (j := (0 : Int32)) in90 (g := (mkF m 39 #[.val (.int p1), .val (.int p2), .val (.int p3), .val (.int p4), .val (.int p5), .val (.int p6), .val (.double (FP.i2d p3)), .second, .val (.double (FP.i2d p4)), .second, .val (.double (FP.i2d p5)), .second, .val (.double (FP.i2d p6)), .second, .val (.int (2 : Int32)), .unset, .unset, .unset] [(.double (FP.i2d p3)), (.int (0 : Int32)), (.ref b87), (.ref b87)])) rfl rfl (hb hby at_39)
      have z92 : n0 ≤ h91.size := Nat.le_trans z88 (Keep.of_wr W91).1
      have V91 : Arv Z h91 b87 k87 .double (1 : Int32) [(.double (FP.i2d p3))] (.double (0 : UInt64)) := Arv.set Ar89 Q89 S89 M89 H89 G89 rfl W91 0 rfl (Nat.le_of_ble_eq_true rfl)
      have N91 : Fr n0 _ := Fr.snoc X91 N0 g_b87
      obtain ⟨_, _, ⟨T93, L93, kk93, nn93⟩, -, X93, ⟨Lc93, hQ93, l93, y93, z93⟩, st93⟩ := Jvm.LawKit.callS X91 hx (y := (⟨"com/example/manyfront/manyfront/cli/ReferencePoint", "fit", "([DI)[D"⟩ : MethodName)) hown (mvT hZ (hw _ (List.mem_of_getElem? (i := 5) rfl))) (mvT hZ (hw _ (List.mem_of_getElem? (i := 6) rfl))) (mvT hZ (hw _ (List.mem_of_getElem? (i := 7) rfl))) (mvT hZ (hw _ (List.mem_of_getElem? (i := 8) rfl))) (by decide) (backOf (W := 0) (rmfitN2 l Z a0 hw [] b87 (FP.i2d p3) k87 h91 n0 z92 V91) hZ (hw _ (List.mem_of_getElem? (i := 8) rfl)) (hw _ (List.mem_of_getElem? (i := 7) rfl)) (by decide) (by decide)) (g := (mkF m 46 #[.val (.int p1), .val (.int p2), .val (.int p3), .val (.int p4), .val (.int p5), .val (.int p6), .val (.double (FP.i2d p3)), .second, .val (.double (FP.i2d p4)), .second, .val (.double (FP.i2d p5)), .second, .val (.double (FP.i2d p6)), .second, .val (.int (2 : Int32)), .val (.ref b87), .unset, .unset] [(.int (2 : Int32)), (.ref b87)])) rfl (by rw [hml]; rfl) (argsL := [(.ref b87), (.int (2 : Int32))]) (rest := []) (lenOf pd__28_5bDI_29_5bD rfl) rfl (by show 2 * 0 + _ ≤ _; exact Nat.le_of_eq rfl) (hb hby at_46) (fun _ _ => ⟨rfl, e91, (by decide : 1 + 1 ≤ _), (by decide : 1 + 2 ≤ _)⟩)
      dsimp only [Pt.U, Pt.locs, Pt.cells, Pt.slots] at X93 l93 y93 z93 st93 hQ93
      subst l93 y93 z93
      obtain ⟨b_93, kb_93, rfl, N93q, K93, x93_0, x93_1⟩ := hQ93
      have N93 := Fr.app N91 N93q
      have ne94 : b87 ≠ b_93 := Nat.ne_of_lt (Nat.lt_of_lt_of_le V91.lt x93_0)
      have g_b_93 : n0 ≤ b_93 := Nat.le_trans z92 x93_0
      have z95 : n0 ≤ T93.heap.size := Nat.le_trans z92 K93.1
      obtain ⟨cl96, Ar96, Q96, S96, M96, H96, G96⟩ := id x93_1
      have f97 : Arv Z T93.heap b87 k87 .double (1 : Int32) [(.double (FP.i2d p3))] (.double (0 : UInt64)) := (V91.keep K93 own_nm0)
      obtain ⟨cl98, Ar98, Q98, S98, M98, H98, G98⟩ := id f97
      obtain ⟨cl99, Ar99, Q99, S99, M99, H99, G99⟩ := id f97
      have in100 : ¬ ((0 : Int32) < 0 ∨ cl99.slots.size ≤ ((0 : Int32)).toNatClampNeg) := inb_of S99 ⟨by decide, by decide⟩
      have at101 : cl99.slots[((0 : Int32)).toNatClampNeg]? = some (.double (FP.i2d p3)) := H99 0 (by rw [S99]; decide)
      obtain ⟨cl102, Ar102, Q102, S102, M102, H102, G102⟩ := id x93_1
      have in103 : ¬ ((0 : Int32) < 0 ∨ cl102.slots.size ≤ ((0 : Int32)).toNatClampNeg) := inb_of S102 ⟨by decide, by decide⟩
      have at104 : cl102.slots[((0 : Int32)).toNatClampNeg]? = some (.double (FP.i2d p3)) := H102 0 (by rw [S102]; decide)
      obtain ⟨cl105, Ar105, Q105, S105, M105, H105, G105⟩ := id x93_1
      have in106 : ¬ ((1 : Int32) < 0 ∨ cl105.slots.size ≤ ((1 : Int32)).toNatClampNeg) := inb_of S105 ⟨by decide, by decide⟩
      have at107 : cl105.slots[((1 : Int32)).toNatClampNeg]? = some (.double (FP.i2d p3)) := H105 1 (by rw [S105]; decide)
      have pre108 : ∀ t, Steps p.tables e below (T93.setTop (mkF m 172 #[.val (.int p1), .val (.int p2), .val (.int p3), .val (.int p4), .val (.int p5), .val (.int p6), .val (.double (FP.i2d p3)), .second, .val (.double (FP.i2d p4)), .second, .val (.double (FP.i2d p5)), .second, .val (.double (FP.i2d p6)), .second, .val (.int (2 : Int32)), .val (.ref b87), .val (.ref b_93), .unset] [(.int (1 : Int32))])) t → Steps p.tables e below (s₁.setTop (entryFrame m #[(.int p1), (.int p2), (.int p3), (.int p4), (.int p5), (.int p6)] maxLocals)) t := fun t kt => pre51 t (by
          show Steps p.tables e below (s₁.setTop (mkF m 24 #[.val (.int p1), .val (.int p2), .val (.int p3), .val (.int p4), .val (.int p5), .val (.int p6), .val (.double (FP.i2d p3)), .second, .val (.double (FP.i2d p4)), .second, .val (.double (FP.i2d p5)), .second, .val (.double (FP.i2d p6)), .second, .unset, .unset, .unset, .unset] [])) _
          refine XS.iloadN X0.here hx rfl (hb hby at_24) rfl ?_
          show Steps p.tables e below (s₁.setTop (mkF m 25 #[.val (.int p1), .val (.int p2), .val (.int p3), .val (.int p4), .val (.int p5), .val (.int p6), .val (.double (FP.i2d p3)), .second, .val (.double (FP.i2d p4)), .second, .val (.double (FP.i2d p5)), .second, .val (.double (FP.i2d p6)), .second, .unset, .unset, .unset, .unset] [(.int p2)])) _
          refine X0.ldcInt hx hown (mvT hZ (hw _ (List.mem_of_getElem? (i := 9) rfl))) (g := (mkF m 25 #[.val (.int p1), .val (.int p2), .val (.int p3), .val (.int p4), .val (.int p5), .val (.int p6), .val (.double (FP.i2d p3)), .second, .val (.double (FP.i2d p4)), .second, .val (.double (FP.i2d p5)), .second, .val (.double (FP.i2d p6)), .second, .unset, .unset, .unset, .unset] [(.int p2)])) rfl (hb hby at_25) _ ?_
          show Steps p.tables e below (s₁.setTop (mkF m 27 #[.val (.int p1), .val (.int p2), .val (.int p3), .val (.int p4), .val (.int p5), .val (.int p6), .val (.double (FP.i2d p3)), .second, .val (.double (FP.i2d p4)), .second, .val (.double (FP.i2d p5)), .second, .val (.double (FP.i2d p6)), .second, .unset, .unset, .unset, .unset] [(.int (2147483647 : Int32)), (.int p2)])) _
          refine XS.iand X0.here hx rfl (hb hby at_27) rfl ?_
          show Steps p.tables e below (s₁.setTop (mkF m 28 #[.val (.int p1), .val (.int p2), .val (.int p3), .val (.int p4), .val (.int p5), .val (.int p6), .val (.double (FP.i2d p3)), .second, .val (.double (FP.i2d p4)), .second, .val (.double (FP.i2d p5)), .second, .val (.double (FP.i2d p6)), .second, .unset, .unset, .unset, .unset] [(.int (p2 &&& (2147483647 : Int32)))])) _
          refine XS.iconst X0.here hx rfl (hb hby at_28) ?_
          show Steps p.tables e below (s₁.setTop (mkF m 29 #[.val (.int p1), .val (.int p2), .val (.int p3), .val (.int p4), .val (.int p5), .val (.int p6), .val (.double (FP.i2d p3)), .second, .val (.double (FP.i2d p4)), .second, .val (.double (FP.i2d p5)), .second, .val (.double (FP.i2d p6)), .second, .unset, .unset, .unset, .unset] [(.int (5 : Int32)), (.int (p2 &&& (2147483647 : Int32)))])) _
          refine iremM X0 hx rfl (hb hby at_29) rfl (by decide) ?_
          show Steps p.tables e below (s₁.setTop (mkF m 30 #[.val (.int p1), .val (.int p2), .val (.int p3), .val (.int p4), .val (.int p5), .val (.int p6), .val (.double (FP.i2d p3)), .second, .val (.double (FP.i2d p4)), .second, .val (.double (FP.i2d p5)), .second, .val (.double (FP.i2d p6)), .second, .unset, .unset, .unset, .unset] [(.int ((p2 &&& (2147483647 : Int32)) % (5 : Int32)))])) _
          rw [hk]
          show Steps p.tables e below (s₁.setTop (mkF m 30 #[.val (.int p1), .val (.int p2), .val (.int p3), .val (.int p4), .val (.int p5), .val (.int p6), .val (.double (FP.i2d p3)), .second, .val (.double (FP.i2d p4)), .second, .val (.double (FP.i2d p5)), .second, .val (.double (FP.i2d p6)), .second, .unset, .unset, .unset, .unset] [(.int (2 : Int32))])) _
          refine XS.istore X0.here hx rfl (hb hby at_30) rfl (l' := #[.val (.int p1), .val (.int p2), .val (.int p3), .val (.int p4), .val (.int p5), .val (.int p6), .val (.double (FP.i2d p3)), .second, .val (.double (FP.i2d p4)), .second, .val (.double (FP.i2d p5)), .second, .val (.double (FP.i2d p6)), .second, .val (.int (2 : Int32)), .unset, .unset, .unset]) rfl ?_
          show Steps p.tables e below (s₁.setTop (mkF m 32 #[.val (.int p1), .val (.int p2), .val (.int p3), .val (.int p4), .val (.int p5), .val (.int p6), .val (.double (FP.i2d p3)), .second, .val (.double (FP.i2d p4)), .second, .val (.double (FP.i2d p5)), .second, .val (.double (FP.i2d p6)), .second, .val (.int (2 : Int32)), .unset, .unset, .unset] [])) _
          refine XS.iconst X0.here hx rfl (hb hby at_32) ?_
          show Steps p.tables e below (s₁.setTop (mkF m 33 #[.val (.int p1), .val (.int p2), .val (.int p3), .val (.int p4), .val (.int p5), .val (.int p6), .val (.double (FP.i2d p3)), .second, .val (.double (FP.i2d p4)), .second, .val (.double (FP.i2d p5)), .second, .val (.double (FP.i2d p6)), .second, .val (.int (2 : Int32)), .unset, .unset, .unset] [(.int (1 : Int32))])) _
          refine st87 _ ?_
          show Steps p.tables e below (T87.setTop (mkF m 35 #[.val (.int p1), .val (.int p2), .val (.int p3), .val (.int p4), .val (.int p5), .val (.int p6), .val (.double (FP.i2d p3)), .second, .val (.double (FP.i2d p4)), .second, .val (.double (FP.i2d p5)), .second, .val (.double (FP.i2d p6)), .second, .val (.int (2 : Int32)), .unset, .unset, .unset] [(.ref b87)])) _
          refine XS.dup X87.here hx rfl (hb hby at_35) rfl rfl ?_
          show Steps p.tables e below (T87.setTop (mkF m 36 #[.val (.int p1), .val (.int p2), .val (.int p3), .val (.int p4), .val (.int p5), .val (.int p6), .val (.double (FP.i2d p3)), .second, .val (.double (FP.i2d p4)), .second, .val (.double (FP.i2d p5)), .second, .val (.double (FP.i2d p6)), .second, .val (.int (2 : Int32)), .unset, .unset, .unset] [(.ref b87), (.ref b87)])) _
          refine XS.iconst X87.here hx rfl (hb hby at_36) ?_
          show Steps p.tables e below (T87.setTop (mkF m 37 #[.val (.int p1), .val (.int p2), .val (.int p3), .val (.int p4), .val (.int p5), .val (.int p6), .val (.double (FP.i2d p3)), .second, .val (.double (FP.i2d p4)), .second, .val (.double (FP.i2d p5)), .second, .val (.double (FP.i2d p6)), .second, .val (.int (2 : Int32)), .unset, .unset, .unset] [(.int (0 : Int32)), (.ref b87), (.ref b87)])) _
          refine XS.dload X87.here hx rfl (hb hby at_37) rfl ?_
          show Steps p.tables e below (T87.setTop (mkF m 39 #[.val (.int p1), .val (.int p2), .val (.int p3), .val (.int p4), .val (.int p5), .val (.int p6), .val (.double (FP.i2d p3)), .second, .val (.double (FP.i2d p4)), .second, .val (.double (FP.i2d p5)), .second, .val (.double (FP.i2d p6)), .second, .val (.int (2 : Int32)), .unset, .unset, .unset] [(.double (FP.i2d p3)), (.int (0 : Int32)), (.ref b87), (.ref b87)])) _
          refine st91 _ ?_
          show Steps p.tables e below (T91.setTop (mkF m 40 #[.val (.int p1), .val (.int p2), .val (.int p3), .val (.int p4), .val (.int p5), .val (.int p6), .val (.double (FP.i2d p3)), .second, .val (.double (FP.i2d p4)), .second, .val (.double (FP.i2d p5)), .second, .val (.double (FP.i2d p6)), .second, .val (.int (2 : Int32)), .unset, .unset, .unset] [(.ref b87)])) _
          refine XS.astore X91.here hx rfl (hb hby at_40) rfl rfl (l' := #[.val (.int p1), .val (.int p2), .val (.int p3), .val (.int p4), .val (.int p5), .val (.int p6), .val (.double (FP.i2d p3)), .second, .val (.double (FP.i2d p4)), .second, .val (.double (FP.i2d p5)), .second, .val (.double (FP.i2d p6)), .second, .val (.int (2 : Int32)), .val (.ref b87), .unset, .unset]) rfl ?_
          show Steps p.tables e below (T91.setTop (mkF m 42 #[.val (.int p1), .val (.int p2), .val (.int p3), .val (.int p4), .val (.int p5), .val (.int p6), .val (.double (FP.i2d p3)), .second, .val (.double (FP.i2d p4)), .second, .val (.double (FP.i2d p5)), .second, .val (.double (FP.i2d p6)), .second, .val (.int (2 : Int32)), .val (.ref b87), .unset, .unset] [])) _
          refine XS.aload X91.here hx rfl (hb hby at_42) rfl rfl ?_
          show Steps p.tables e below (T91.setTop (mkF m 44 #[.val (.int p1), .val (.int p2), .val (.int p3), .val (.int p4), .val (.int p5), .val (.int p6), .val (.double (FP.i2d p3)), .second, .val (.double (FP.i2d p4)), .second, .val (.double (FP.i2d p5)), .second, .val (.double (FP.i2d p6)), .second, .val (.int (2 : Int32)), .val (.ref b87), .unset, .unset] [(.ref b87)])) _
          refine XS.iload X91.here hx rfl (hb hby at_44) rfl ?_
          show Steps p.tables e below (T91.setTop (mkF m 46 #[.val (.int p1), .val (.int p2), .val (.int p3), .val (.int p4), .val (.int p5), .val (.int p6), .val (.double (FP.i2d p3)), .second, .val (.double (FP.i2d p4)), .second, .val (.double (FP.i2d p5)), .second, .val (.double (FP.i2d p6)), .second, .val (.int (2 : Int32)), .val (.ref b87), .unset, .unset] [(.int (2 : Int32)), (.ref b87)])) _
          refine st93 _ ?_
          show Steps p.tables e below (T93.setTop (mkF m 49 #[.val (.int p1), .val (.int p2), .val (.int p3), .val (.int p4), .val (.int p5), .val (.int p6), .val (.double (FP.i2d p3)), .second, .val (.double (FP.i2d p4)), .second, .val (.double (FP.i2d p5)), .second, .val (.double (FP.i2d p6)), .second, .val (.int (2 : Int32)), .val (.ref b87), .unset, .unset] [(.ref b_93)])) _
          refine XS.astore X93.here hx rfl (hb hby at_49) rfl rfl (l' := #[.val (.int p1), .val (.int p2), .val (.int p3), .val (.int p4), .val (.int p5), .val (.int p6), .val (.double (FP.i2d p3)), .second, .val (.double (FP.i2d p4)), .second, .val (.double (FP.i2d p5)), .second, .val (.double (FP.i2d p6)), .second, .val (.int (2 : Int32)), .val (.ref b87), .val (.ref b_93), .unset]) rfl ?_
          show Steps p.tables e below (T93.setTop (mkF m 51 #[.val (.int p1), .val (.int p2), .val (.int p3), .val (.int p4), .val (.int p5), .val (.int p6), .val (.double (FP.i2d p3)), .second, .val (.double (FP.i2d p4)), .second, .val (.double (FP.i2d p5)), .second, .val (.double (FP.i2d p6)), .second, .val (.int (2 : Int32)), .val (.ref b87), .val (.ref b_93), .unset] [])) _
          refine XS.aload X93.here hx rfl (hb hby at_51) rfl rfl ?_
          show Steps p.tables e below (T93.setTop (mkF m 53 #[.val (.int p1), .val (.int p2), .val (.int p3), .val (.int p4), .val (.int p5), .val (.int p6), .val (.double (FP.i2d p3)), .second, .val (.double (FP.i2d p4)), .second, .val (.double (FP.i2d p5)), .second, .val (.double (FP.i2d p6)), .second, .val (.int (2 : Int32)), .val (.ref b87), .val (.ref b_93), .unset] [(.ref b_93)])) _
          refine XS.ifnullNo X93.here hx rfl (hb hby at_53) rfl ?_
          show Steps p.tables e below (T93.setTop (mkF m 56 #[.val (.int p1), .val (.int p2), .val (.int p3), .val (.int p4), .val (.int p5), .val (.int p6), .val (.double (FP.i2d p3)), .second, .val (.double (FP.i2d p4)), .second, .val (.double (FP.i2d p5)), .second, .val (.double (FP.i2d p6)), .second, .val (.int (2 : Int32)), .val (.ref b87), .val (.ref b_93), .unset] [])) _
          refine XS.aload X93.here hx rfl (hb hby at_56) rfl rfl ?_
          show Steps p.tables e below (T93.setTop (mkF m 58 #[.val (.int p1), .val (.int p2), .val (.int p3), .val (.int p4), .val (.int p5), .val (.int p6), .val (.double (FP.i2d p3)), .second, .val (.double (FP.i2d p4)), .second, .val (.double (FP.i2d p5)), .second, .val (.double (FP.i2d p6)), .second, .val (.int (2 : Int32)), .val (.ref b87), .val (.ref b_93), .unset] [(.ref b_93)])) _
          refine X93.arraylength hx (cell := cl96) Ar96.1 (State.isArrayOf_alike hZ.alike Ar96.2.1) (g := (mkF m 58 #[.val (.int p1), .val (.int p2), .val (.int p3), .val (.int p4), .val (.int p5), .val (.int p6), .val (.double (FP.i2d p3)), .second, .val (.double (FP.i2d p4)), .second, .val (.double (FP.i2d p5)), .second, .val (.double (FP.i2d p6)), .second, .val (.int (2 : Int32)), .val (.ref b87), .val (.ref b_93), .unset] [(.ref b_93)])) rfl rfl (hb hby at_58) _ ?_
          rw [len_of S96 M96]
          show Steps p.tables e below (T93.setTop (mkF m 59 #[.val (.int p1), .val (.int p2), .val (.int p3), .val (.int p4), .val (.int p5), .val (.int p6), .val (.double (FP.i2d p3)), .second, .val (.double (FP.i2d p4)), .second, .val (.double (FP.i2d p5)), .second, .val (.double (FP.i2d p6)), .second, .val (.int (2 : Int32)), .val (.ref b87), .val (.ref b_93), .unset] [(.int (2 : Int32))])) _
          refine XS.iload X93.here hx rfl (hb hby at_59) rfl ?_
          show Steps p.tables e below (T93.setTop (mkF m 61 #[.val (.int p1), .val (.int p2), .val (.int p3), .val (.int p4), .val (.int p5), .val (.int p6), .val (.double (FP.i2d p3)), .second, .val (.double (FP.i2d p4)), .second, .val (.double (FP.i2d p5)), .second, .val (.double (FP.i2d p6)), .second, .val (.int (2 : Int32)), .val (.ref b87), .val (.ref b_93), .unset] [(.int (2 : Int32)), (.int (2 : Int32))])) _
          refine XS.icmpYes X93.here hx rfl (pc0 := 61) (pc' := 66) rfl (hb hby at_61) rfl (teq ((by decide) : (2 : Int32) = (2 : Int32))).1 (by decide) (by decide) ?_
          show Steps p.tables e below (T93.setTop (mkF m 66 #[.val (.int p1), .val (.int p2), .val (.int p3), .val (.int p4), .val (.int p5), .val (.int p6), .val (.double (FP.i2d p3)), .second, .val (.double (FP.i2d p4)), .second, .val (.double (FP.i2d p5)), .second, .val (.double (FP.i2d p6)), .second, .val (.int (2 : Int32)), .val (.ref b87), .val (.ref b_93), .unset] [])) _
          refine XS.iload X93.here hx rfl (hb hby at_66) rfl ?_
          show Steps p.tables e below (T93.setTop (mkF m 68 #[.val (.int p1), .val (.int p2), .val (.int p3), .val (.int p4), .val (.int p5), .val (.int p6), .val (.double (FP.i2d p3)), .second, .val (.double (FP.i2d p4)), .second, .val (.double (FP.i2d p5)), .second, .val (.double (FP.i2d p6)), .second, .val (.int (2 : Int32)), .val (.ref b87), .val (.ref b_93), .unset] [(.int (2 : Int32))])) _
          refine XS.iconst X93.here hx rfl (hb hby at_68) ?_
          show Steps p.tables e below (T93.setTop (mkF m 69 #[.val (.int p1), .val (.int p2), .val (.int p3), .val (.int p4), .val (.int p5), .val (.int p6), .val (.double (FP.i2d p3)), .second, .val (.double (FP.i2d p4)), .second, .val (.double (FP.i2d p5)), .second, .val (.double (FP.i2d p6)), .second, .val (.int (2 : Int32)), .val (.ref b87), .val (.ref b_93), .unset] [(.int (1 : Int32)), (.int (2 : Int32))])) _
          refine XS.icmpNo X93.here hx rfl (hb hby at_69) rfl (feq ((by decide) : ¬ ((2 : Int32) = (1 : Int32)))).1 ?_
          show Steps p.tables e below (T93.setTop (mkF m 72 #[.val (.int p1), .val (.int p2), .val (.int p3), .val (.int p4), .val (.int p5), .val (.int p6), .val (.double (FP.i2d p3)), .second, .val (.double (FP.i2d p4)), .second, .val (.double (FP.i2d p5)), .second, .val (.double (FP.i2d p6)), .second, .val (.int (2 : Int32)), .val (.ref b87), .val (.ref b_93), .unset] [])) _
          refine XS.aload X93.here hx rfl (hb hby at_72) rfl rfl ?_
          show Steps p.tables e below (T93.setTop (mkF m 74 #[.val (.int p1), .val (.int p2), .val (.int p3), .val (.int p4), .val (.int p5), .val (.int p6), .val (.double (FP.i2d p3)), .second, .val (.double (FP.i2d p4)), .second, .val (.double (FP.i2d p5)), .second, .val (.double (FP.i2d p6)), .second, .val (.int (2 : Int32)), .val (.ref b87), .val (.ref b_93), .unset] [(.ref b_93)])) _
          refine XS.aload X93.here hx rfl (hb hby at_74) rfl rfl ?_
          show Steps p.tables e below (T93.setTop (mkF m 76 #[.val (.int p1), .val (.int p2), .val (.int p3), .val (.int p4), .val (.int p5), .val (.int p6), .val (.double (FP.i2d p3)), .second, .val (.double (FP.i2d p4)), .second, .val (.double (FP.i2d p5)), .second, .val (.double (FP.i2d p6)), .second, .val (.int (2 : Int32)), .val (.ref b87), .val (.ref b_93), .unset] [(.ref b87), (.ref b_93)])) _
          refine Jvm.RoadKit.acmp (g := (mkF m 76 #[.val (.int p1), .val (.int p2), .val (.int p3), .val (.int p4), .val (.int p5), .val (.int p6), .val (.double (FP.i2d p3)), .second, .val (.double (FP.i2d p4)), .second, .val (.double (FP.i2d p5)), .second, .val (.double (FP.i2d p6)), .second, .val (.int (2 : Int32)), .val (.ref b87), .val (.ref b_93), .unset] [(.ref b87), (.ref b_93)])) X93 hx rfl rfl rfl (pc0 := 76) (pc' := 81) (same := false) rfl (hb hby at_76) rfl (decide_eq_false fun q => (Ne.symm ne94) (Value.ref.inj q)) (by decide) (by decide) ?_
          show Steps p.tables e below (T93.setTop (mkF m 81 #[.val (.int p1), .val (.int p2), .val (.int p3), .val (.int p4), .val (.int p5), .val (.int p6), .val (.double (FP.i2d p3)), .second, .val (.double (FP.i2d p4)), .second, .val (.double (FP.i2d p5)), .second, .val (.double (FP.i2d p6)), .second, .val (.int (2 : Int32)), .val (.ref b87), .val (.ref b_93), .unset] [])) _
          refine XS.aload X93.here hx rfl (hb hby at_81) rfl rfl ?_
          show Steps p.tables e below (T93.setTop (mkF m 83 #[.val (.int p1), .val (.int p2), .val (.int p3), .val (.int p4), .val (.int p5), .val (.int p6), .val (.double (FP.i2d p3)), .second, .val (.double (FP.i2d p4)), .second, .val (.double (FP.i2d p5)), .second, .val (.double (FP.i2d p6)), .second, .val (.int (2 : Int32)), .val (.ref b87), .val (.ref b_93), .unset] [(.ref b87)])) _
          refine X93.arraylength hx (cell := cl98) Ar98.1 (State.isArrayOf_alike hZ.alike Ar98.2.1) (g := (mkF m 83 #[.val (.int p1), .val (.int p2), .val (.int p3), .val (.int p4), .val (.int p5), .val (.int p6), .val (.double (FP.i2d p3)), .second, .val (.double (FP.i2d p4)), .second, .val (.double (FP.i2d p5)), .second, .val (.double (FP.i2d p6)), .second, .val (.int (2 : Int32)), .val (.ref b87), .val (.ref b_93), .unset] [(.ref b87)])) rfl rfl (hb hby at_83) _ ?_
          rw [len_of S98 M98]
          show Steps p.tables e below (T93.setTop (mkF m 84 #[.val (.int p1), .val (.int p2), .val (.int p3), .val (.int p4), .val (.int p5), .val (.int p6), .val (.double (FP.i2d p3)), .second, .val (.double (FP.i2d p4)), .second, .val (.double (FP.i2d p5)), .second, .val (.double (FP.i2d p6)), .second, .val (.int (2 : Int32)), .val (.ref b87), .val (.ref b_93), .unset] [(.int (1 : Int32))])) _
          refine XS.iconst X93.here hx rfl (hb hby at_84) ?_
          show Steps p.tables e below (T93.setTop (mkF m 85 #[.val (.int p1), .val (.int p2), .val (.int p3), .val (.int p4), .val (.int p5), .val (.int p6), .val (.double (FP.i2d p3)), .second, .val (.double (FP.i2d p4)), .second, .val (.double (FP.i2d p5)), .second, .val (.double (FP.i2d p6)), .second, .val (.int (2 : Int32)), .val (.ref b87), .val (.ref b_93), .unset] [(.int (1 : Int32)), (.int (1 : Int32))])) _
          refine XS.icmpNo X93.here hx rfl (hb hby at_85) rfl (teq ((by decide) : (1 : Int32) = (1 : Int32))).2 ?_
          show Steps p.tables e below (T93.setTop (mkF m 88 #[.val (.int p1), .val (.int p2), .val (.int p3), .val (.int p4), .val (.int p5), .val (.int p6), .val (.double (FP.i2d p3)), .second, .val (.double (FP.i2d p4)), .second, .val (.double (FP.i2d p5)), .second, .val (.double (FP.i2d p6)), .second, .val (.int (2 : Int32)), .val (.ref b87), .val (.ref b_93), .unset] [])) _
          refine XS.aload X93.here hx rfl (hb hby at_88) rfl rfl ?_
          show Steps p.tables e below (T93.setTop (mkF m 90 #[.val (.int p1), .val (.int p2), .val (.int p3), .val (.int p4), .val (.int p5), .val (.int p6), .val (.double (FP.i2d p3)), .second, .val (.double (FP.i2d p4)), .second, .val (.double (FP.i2d p5)), .second, .val (.double (FP.i2d p6)), .second, .val (.int (2 : Int32)), .val (.ref b87), .val (.ref b_93), .unset] [(.ref b87)])) _
          refine XS.iconst X93.here hx rfl (hb hby at_90) ?_
          show Steps p.tables e below (T93.setTop (mkF m 91 #[.val (.int p1), .val (.int p2), .val (.int p3), .val (.int p4), .val (.int p5), .val (.int p6), .val (.double (FP.i2d p3)), .second, .val (.double (FP.i2d p4)), .second, .val (.double (FP.i2d p5)), .second, .val (.double (FP.i2d p6)), .second, .val (.int (2 : Int32)), .val (.ref b87), .val (.ref b_93), .unset] [(.int (0 : Int32)), (.ref b87)])) _
          refine X93.daload hx (j := (0 : Int32)) (v := (.double (FP.i2d p3))) Ar99.1 (State.isArrayOf_alike hZ.alike Ar99.2.1) Ar99.2.2 in100 at101 (g := (mkF m 91 #[.val (.int p1), .val (.int p2), .val (.int p3), .val (.int p4), .val (.int p5), .val (.int p6), .val (.double (FP.i2d p3)), .second, .val (.double (FP.i2d p4)), .second, .val (.double (FP.i2d p5)), .second, .val (.double (FP.i2d p6)), .second, .val (.int (2 : Int32)), .val (.ref b87), .val (.ref b_93), .unset] [(.int (0 : Int32)), (.ref b87)])) rfl rfl (hb hby at_91) _ ?_
          show Steps p.tables e below (T93.setTop (mkF m 92 #[.val (.int p1), .val (.int p2), .val (.int p3), .val (.int p4), .val (.int p5), .val (.int p6), .val (.double (FP.i2d p3)), .second, .val (.double (FP.i2d p4)), .second, .val (.double (FP.i2d p5)), .second, .val (.double (FP.i2d p6)), .second, .val (.int (2 : Int32)), .val (.ref b87), .val (.ref b_93), .unset] [(.double (FP.i2d p3))])) _
          refine XS.dload X93.here hx rfl (hb hby at_92) rfl ?_
          show Steps p.tables e below (T93.setTop (mkF m 94 #[.val (.int p1), .val (.int p2), .val (.int p3), .val (.int p4), .val (.int p5), .val (.int p6), .val (.double (FP.i2d p3)), .second, .val (.double (FP.i2d p4)), .second, .val (.double (FP.i2d p5)), .second, .val (.double (FP.i2d p6)), .second, .val (.int (2 : Int32)), .val (.ref b87), .val (.ref b_93), .unset] [(.double (FP.i2d p3)), (.double (FP.i2d p3))])) _
          refine XS.dcmpS X93.here hx rfl (hb hby at_94) rfl (v := (0 : Int32)) (dcmpV_self (Fl.i2d_fin _).noNaN .l) ?_
          show Steps p.tables e below (T93.setTop (mkF m 95 #[.val (.int p1), .val (.int p2), .val (.int p3), .val (.int p4), .val (.int p5), .val (.int p6), .val (.double (FP.i2d p3)), .second, .val (.double (FP.i2d p4)), .second, .val (.double (FP.i2d p5)), .second, .val (.double (FP.i2d p6)), .second, .val (.int (2 : Int32)), .val (.ref b87), .val (.ref b_93), .unset] [(.int (0 : Int32))])) _
          refine XS.ifYes X93.here hx rfl (pc0 := 95) (pc' := 100) rfl (hb hby at_95) rfl ((if0 _ _).trans (teq ((by decide) : (0 : Int32) = (0 : Int32))).1) (by decide) (by decide) ?_
          show Steps p.tables e below (T93.setTop (mkF m 100 #[.val (.int p1), .val (.int p2), .val (.int p3), .val (.int p4), .val (.int p5), .val (.int p6), .val (.double (FP.i2d p3)), .second, .val (.double (FP.i2d p4)), .second, .val (.double (FP.i2d p5)), .second, .val (.double (FP.i2d p6)), .second, .val (.int (2 : Int32)), .val (.ref b87), .val (.ref b_93), .unset] [])) _
          refine XS.iload X93.here hx rfl (hb hby at_100) rfl ?_
          show Steps p.tables e below (T93.setTop (mkF m 102 #[.val (.int p1), .val (.int p2), .val (.int p3), .val (.int p4), .val (.int p5), .val (.int p6), .val (.double (FP.i2d p3)), .second, .val (.double (FP.i2d p4)), .second, .val (.double (FP.i2d p5)), .second, .val (.double (FP.i2d p6)), .second, .val (.int (2 : Int32)), .val (.ref b87), .val (.ref b_93), .unset] [(.int (2 : Int32))])) _
          refine XS.ifNo X93.here hx rfl (hb hby at_102) rfl ((if0 _ _).trans (tlt ((by decide) : (0 : Int32) < (2 : Int32))).2.2.2) ?_
          show Steps p.tables e below (T93.setTop (mkF m 105 #[.val (.int p1), .val (.int p2), .val (.int p3), .val (.int p4), .val (.int p5), .val (.int p6), .val (.double (FP.i2d p3)), .second, .val (.double (FP.i2d p4)), .second, .val (.double (FP.i2d p5)), .second, .val (.double (FP.i2d p6)), .second, .val (.int (2 : Int32)), .val (.ref b87), .val (.ref b_93), .unset] [])) _
          refine XS.aload X93.here hx rfl (hb hby at_105) rfl rfl ?_
          show Steps p.tables e below (T93.setTop (mkF m 107 #[.val (.int p1), .val (.int p2), .val (.int p3), .val (.int p4), .val (.int p5), .val (.int p6), .val (.double (FP.i2d p3)), .second, .val (.double (FP.i2d p4)), .second, .val (.double (FP.i2d p5)), .second, .val (.double (FP.i2d p6)), .second, .val (.int (2 : Int32)), .val (.ref b87), .val (.ref b_93), .unset] [(.ref b_93)])) _
          refine XS.iconst X93.here hx rfl (hb hby at_107) ?_
          show Steps p.tables e below (T93.setTop (mkF m 108 #[.val (.int p1), .val (.int p2), .val (.int p3), .val (.int p4), .val (.int p5), .val (.int p6), .val (.double (FP.i2d p3)), .second, .val (.double (FP.i2d p4)), .second, .val (.double (FP.i2d p5)), .second, .val (.double (FP.i2d p6)), .second, .val (.int (2 : Int32)), .val (.ref b87), .val (.ref b_93), .unset] [(.int (0 : Int32)), (.ref b_93)])) _
          refine X93.daload hx (j := (0 : Int32)) (v := (.double (FP.i2d p3))) Ar102.1 (State.isArrayOf_alike hZ.alike Ar102.2.1) Ar102.2.2 in103 at104 (g := (mkF m 108 #[.val (.int p1), .val (.int p2), .val (.int p3), .val (.int p4), .val (.int p5), .val (.int p6), .val (.double (FP.i2d p3)), .second, .val (.double (FP.i2d p4)), .second, .val (.double (FP.i2d p5)), .second, .val (.double (FP.i2d p6)), .second, .val (.int (2 : Int32)), .val (.ref b87), .val (.ref b_93), .unset] [(.int (0 : Int32)), (.ref b_93)])) rfl rfl (hb hby at_108) _ ?_
          show Steps p.tables e below (T93.setTop (mkF m 109 #[.val (.int p1), .val (.int p2), .val (.int p3), .val (.int p4), .val (.int p5), .val (.int p6), .val (.double (FP.i2d p3)), .second, .val (.double (FP.i2d p4)), .second, .val (.double (FP.i2d p5)), .second, .val (.double (FP.i2d p6)), .second, .val (.int (2 : Int32)), .val (.ref b87), .val (.ref b_93), .unset] [(.double (FP.i2d p3))])) _
          refine XS.dload X93.here hx rfl (hb hby at_109) rfl ?_
          show Steps p.tables e below (T93.setTop (mkF m 111 #[.val (.int p1), .val (.int p2), .val (.int p3), .val (.int p4), .val (.int p5), .val (.int p6), .val (.double (FP.i2d p3)), .second, .val (.double (FP.i2d p4)), .second, .val (.double (FP.i2d p5)), .second, .val (.double (FP.i2d p6)), .second, .val (.int (2 : Int32)), .val (.ref b87), .val (.ref b_93), .unset] [(.double (FP.i2d p3)), (.double (FP.i2d p3))])) _
          refine XS.dcmpS X93.here hx rfl (hb hby at_111) rfl (v := (0 : Int32)) (dcmpV_self (Fl.i2d_fin _).noNaN .l) ?_
          show Steps p.tables e below (T93.setTop (mkF m 112 #[.val (.int p1), .val (.int p2), .val (.int p3), .val (.int p4), .val (.int p5), .val (.int p6), .val (.double (FP.i2d p3)), .second, .val (.double (FP.i2d p4)), .second, .val (.double (FP.i2d p5)), .second, .val (.double (FP.i2d p6)), .second, .val (.int (2 : Int32)), .val (.ref b87), .val (.ref b_93), .unset] [(.int (0 : Int32))])) _
          refine XS.ifYes X93.here hx rfl (pc0 := 112) (pc' := 117) rfl (hb hby at_112) rfl ((if0 _ _).trans (teq ((by decide) : (0 : Int32) = (0 : Int32))).1) (by decide) (by decide) ?_
          show Steps p.tables e below (T93.setTop (mkF m 117 #[.val (.int p1), .val (.int p2), .val (.int p3), .val (.int p4), .val (.int p5), .val (.int p6), .val (.double (FP.i2d p3)), .second, .val (.double (FP.i2d p4)), .second, .val (.double (FP.i2d p5)), .second, .val (.double (FP.i2d p6)), .second, .val (.int (2 : Int32)), .val (.ref b87), .val (.ref b_93), .unset] [])) _
          refine XS.iload X93.here hx rfl (hb hby at_117) rfl ?_
          show Steps p.tables e below (T93.setTop (mkF m 119 #[.val (.int p1), .val (.int p2), .val (.int p3), .val (.int p4), .val (.int p5), .val (.int p6), .val (.double (FP.i2d p3)), .second, .val (.double (FP.i2d p4)), .second, .val (.double (FP.i2d p5)), .second, .val (.double (FP.i2d p6)), .second, .val (.int (2 : Int32)), .val (.ref b87), .val (.ref b_93), .unset] [(.int (2 : Int32))])) _
          refine XS.iconst X93.here hx rfl (hb hby at_119) ?_
          show Steps p.tables e below (T93.setTop (mkF m 120 #[.val (.int p1), .val (.int p2), .val (.int p3), .val (.int p4), .val (.int p5), .val (.int p6), .val (.double (FP.i2d p3)), .second, .val (.double (FP.i2d p4)), .second, .val (.double (FP.i2d p5)), .second, .val (.double (FP.i2d p6)), .second, .val (.int (2 : Int32)), .val (.ref b87), .val (.ref b_93), .unset] [(.int (1 : Int32)), (.int (2 : Int32))])) _
          refine XS.icmpNo X93.here hx rfl (hb hby at_120) rfl (tlt ((by decide) : (1 : Int32) < (2 : Int32))).2.2.2 ?_
          show Steps p.tables e below (T93.setTop (mkF m 123 #[.val (.int p1), .val (.int p2), .val (.int p3), .val (.int p4), .val (.int p5), .val (.int p6), .val (.double (FP.i2d p3)), .second, .val (.double (FP.i2d p4)), .second, .val (.double (FP.i2d p5)), .second, .val (.double (FP.i2d p6)), .second, .val (.int (2 : Int32)), .val (.ref b87), .val (.ref b_93), .unset] [])) _
          refine XS.aload X93.here hx rfl (hb hby at_123) rfl rfl ?_
          show Steps p.tables e below (T93.setTop (mkF m 125 #[.val (.int p1), .val (.int p2), .val (.int p3), .val (.int p4), .val (.int p5), .val (.int p6), .val (.double (FP.i2d p3)), .second, .val (.double (FP.i2d p4)), .second, .val (.double (FP.i2d p5)), .second, .val (.double (FP.i2d p6)), .second, .val (.int (2 : Int32)), .val (.ref b87), .val (.ref b_93), .unset] [(.ref b_93)])) _
          refine XS.iconst X93.here hx rfl (hb hby at_125) ?_
          show Steps p.tables e below (T93.setTop (mkF m 126 #[.val (.int p1), .val (.int p2), .val (.int p3), .val (.int p4), .val (.int p5), .val (.int p6), .val (.double (FP.i2d p3)), .second, .val (.double (FP.i2d p4)), .second, .val (.double (FP.i2d p5)), .second, .val (.double (FP.i2d p6)), .second, .val (.int (2 : Int32)), .val (.ref b87), .val (.ref b_93), .unset] [(.int (1 : Int32)), (.ref b_93)])) _
          refine X93.daload hx (j := (1 : Int32)) (v := (.double (FP.i2d p3))) Ar105.1 (State.isArrayOf_alike hZ.alike Ar105.2.1) Ar105.2.2 in106 at107 (g := (mkF m 126 #[.val (.int p1), .val (.int p2), .val (.int p3), .val (.int p4), .val (.int p5), .val (.int p6), .val (.double (FP.i2d p3)), .second, .val (.double (FP.i2d p4)), .second, .val (.double (FP.i2d p5)), .second, .val (.double (FP.i2d p6)), .second, .val (.int (2 : Int32)), .val (.ref b87), .val (.ref b_93), .unset] [(.int (1 : Int32)), (.ref b_93)])) rfl rfl (hb hby at_126) _ ?_
          show Steps p.tables e below (T93.setTop (mkF m 127 #[.val (.int p1), .val (.int p2), .val (.int p3), .val (.int p4), .val (.int p5), .val (.int p6), .val (.double (FP.i2d p3)), .second, .val (.double (FP.i2d p4)), .second, .val (.double (FP.i2d p5)), .second, .val (.double (FP.i2d p6)), .second, .val (.int (2 : Int32)), .val (.ref b87), .val (.ref b_93), .unset] [(.double (FP.i2d p3))])) _
          refine XS.dload X93.here hx rfl (hb hby at_127) rfl ?_
          show Steps p.tables e below (T93.setTop (mkF m 129 #[.val (.int p1), .val (.int p2), .val (.int p3), .val (.int p4), .val (.int p5), .val (.int p6), .val (.double (FP.i2d p3)), .second, .val (.double (FP.i2d p4)), .second, .val (.double (FP.i2d p5)), .second, .val (.double (FP.i2d p6)), .second, .val (.int (2 : Int32)), .val (.ref b87), .val (.ref b_93), .unset] [(.double (FP.i2d p3)), (.double (FP.i2d p3))])) _
          refine XS.dcmpS X93.here hx rfl (hb hby at_129) rfl (v := (0 : Int32)) (dcmpV_self (Fl.i2d_fin _).noNaN .l) ?_
          show Steps p.tables e below (T93.setTop (mkF m 130 #[.val (.int p1), .val (.int p2), .val (.int p3), .val (.int p4), .val (.int p5), .val (.int p6), .val (.double (FP.i2d p3)), .second, .val (.double (FP.i2d p4)), .second, .val (.double (FP.i2d p5)), .second, .val (.double (FP.i2d p6)), .second, .val (.int (2 : Int32)), .val (.ref b87), .val (.ref b_93), .unset] [(.int (0 : Int32))])) _
          refine XS.ifYes X93.here hx rfl (pc0 := 130) (pc' := 135) rfl (hb hby at_130) rfl ((if0 _ _).trans (teq ((by decide) : (0 : Int32) = (0 : Int32))).1) (by decide) (by decide) ?_
          show Steps p.tables e below (T93.setTop (mkF m 135 #[.val (.int p1), .val (.int p2), .val (.int p3), .val (.int p4), .val (.int p5), .val (.int p6), .val (.double (FP.i2d p3)), .second, .val (.double (FP.i2d p4)), .second, .val (.double (FP.i2d p5)), .second, .val (.double (FP.i2d p6)), .second, .val (.int (2 : Int32)), .val (.ref b87), .val (.ref b_93), .unset] [])) _
          refine XS.iload X93.here hx rfl (hb hby at_135) rfl ?_
          show Steps p.tables e below (T93.setTop (mkF m 137 #[.val (.int p1), .val (.int p2), .val (.int p3), .val (.int p4), .val (.int p5), .val (.int p6), .val (.double (FP.i2d p3)), .second, .val (.double (FP.i2d p4)), .second, .val (.double (FP.i2d p5)), .second, .val (.double (FP.i2d p6)), .second, .val (.int (2 : Int32)), .val (.ref b87), .val (.ref b_93), .unset] [(.int (2 : Int32))])) _
          refine XS.iconst X93.here hx rfl (hb hby at_137) ?_
          show Steps p.tables e below (T93.setTop (mkF m 138 #[.val (.int p1), .val (.int p2), .val (.int p3), .val (.int p4), .val (.int p5), .val (.int p6), .val (.double (FP.i2d p3)), .second, .val (.double (FP.i2d p4)), .second, .val (.double (FP.i2d p5)), .second, .val (.double (FP.i2d p6)), .second, .val (.int (2 : Int32)), .val (.ref b87), .val (.ref b_93), .unset] [(.int (2 : Int32)), (.int (2 : Int32))])) _
          refine XS.icmpYes X93.here hx rfl (pc0 := 138) (pc' := 153) rfl (hb hby at_138) rfl (flt ((by decide) : ¬ ((2 : Int32) < (2 : Int32)))).2.2.2 (by decide) (by decide) ?_
          show Steps p.tables e below (T93.setTop (mkF m 153 #[.val (.int p1), .val (.int p2), .val (.int p3), .val (.int p4), .val (.int p5), .val (.int p6), .val (.double (FP.i2d p3)), .second, .val (.double (FP.i2d p4)), .second, .val (.double (FP.i2d p5)), .second, .val (.double (FP.i2d p6)), .second, .val (.int (2 : Int32)), .val (.ref b87), .val (.ref b_93), .unset] [])) _
          refine XS.iload X93.here hx rfl (hb hby at_153) rfl ?_
          show Steps p.tables e below (T93.setTop (mkF m 155 #[.val (.int p1), .val (.int p2), .val (.int p3), .val (.int p4), .val (.int p5), .val (.int p6), .val (.double (FP.i2d p3)), .second, .val (.double (FP.i2d p4)), .second, .val (.double (FP.i2d p5)), .second, .val (.double (FP.i2d p6)), .second, .val (.int (2 : Int32)), .val (.ref b87), .val (.ref b_93), .unset] [(.int (2 : Int32))])) _
          refine XS.iconst X93.here hx rfl (hb hby at_155) ?_
          show Steps p.tables e below (T93.setTop (mkF m 156 #[.val (.int p1), .val (.int p2), .val (.int p3), .val (.int p4), .val (.int p5), .val (.int p6), .val (.double (FP.i2d p3)), .second, .val (.double (FP.i2d p4)), .second, .val (.double (FP.i2d p5)), .second, .val (.double (FP.i2d p6)), .second, .val (.int (2 : Int32)), .val (.ref b87), .val (.ref b_93), .unset] [(.int (3 : Int32)), (.int (2 : Int32))])) _
          refine XS.icmpYes X93.here hx rfl (pc0 := 156) (pc' := 171) rfl (hb hby at_156) rfl (flt ((by decide) : ¬ ((3 : Int32) < (2 : Int32)))).2.2.2 (by decide) (by decide) ?_
          show Steps p.tables e below (T93.setTop (mkF m 171 #[.val (.int p1), .val (.int p2), .val (.int p3), .val (.int p4), .val (.int p5), .val (.int p6), .val (.double (FP.i2d p3)), .second, .val (.double (FP.i2d p4)), .second, .val (.double (FP.i2d p5)), .second, .val (.double (FP.i2d p6)), .second, .val (.int (2 : Int32)), .val (.ref b87), .val (.ref b_93), .unset] [])) _
          refine XS.iconst X93.here hx rfl (hb hby at_171) ?_
          exact kt)
      obtain ⟨fs, hr, hrun, hended, hW, hsame⟩ := X93.leave (v := some (.int (1 : Int32))) (fun h => by rw [Bd.returns] at h; cases h)
      refine ⟨_, _, pre108 _ ?_, hrun, hended, _, _, rfl, ?_, ⟨_, rfl⟩, hW, hsame.mono (by decide) (by decide)⟩
      · show Steps p.tables e below (T93.setTop (mkF m 172 #[.val (.int p1), .val (.int p2), .val (.int p3), .val (.int p4), .val (.int p5), .val (.int p6), .val (.double (FP.i2d p3)), .second, .val (.double (FP.i2d p4)), .second, .val (.double (FP.i2d p5)), .second, .val (.double (FP.i2d p6)), .second, .val (.int (2 : Int32)), .val (.ref b87), .val (.ref b_93), .unset] [(.int (1 : Int32))])) _
        exact retN X93 hx (t := .boolean) Bd.returns (by simp) (hb hby at_172) hr
      · show Q0 Z p1 p2 p3 p4 p5 p6 h0 n0 _ T93.heap _
        exact ⟨rfl, N93⟩
    · skip
      obtain ⟨T109, h109, k109, X109, e109, E109, A109, st109⟩ := newP X0 hx hZ (hw _ (List.mem_of_getElem? (i := 4) rfl)) e0 (g := (mkF m 33 #[.val (.int p1), .val (.int p2), .val (.int p3), .val (.int p4), .val (.int p5), .val (.int p6), .val (.double (FP.i2d p3)), .second, .val (.double (FP.i2d p4)), .second, .val (.double (FP.i2d p5)), .second, .val (.double (FP.i2d p6)), .second, .val (.int (3 : Int32)), .unset, .unset, .unset] [(.int (1 : Int32))])) rfl (hb hby at_33) rfl (by decide) (cap := 1) (by decide) (by decide) (by decide) (by decide)
      obtain ⟨b109, g109⟩ : ∃ z, z = h0.size := ⟨_, rfl⟩
      rw [← g109] at A109 st109
      have g_b109 : n0 ≤ b109 := Nat.le_trans Z0 (Nat.le_of_eq g109.symm)
      have z110 : n0 ≤ h109.size := Nat.le_trans Z0 E109.1
      have V109 : Arv Z h109 b109 k109 .double (1 : Int32) [(.double (0 : UInt64))] (.double (0 : UInt64)) := (Arv.new A109 (by decide)).pad (pad_rep [] (.double (0 : UInt64)) 1)
      obtain ⟨cl111, Ar111, Q111, S111, M111, H111, G111⟩ := id V109
      have in112 : ¬ ((0 : Int32) < 0 ∨ cl111.slots.size ≤ ((0 : Int32)).toNatClampNeg) := inb_of S111 ⟨by decide, by decide⟩
      obtain ⟨T113, h113, X113, e113, W113, st113⟩ := stD X109 hx hZ e109 Ar111 (j := (0 : Int32)) in112 (g := (mkF m 39 #[.val (.int p1), .val (.int p2), .val (.int p3), .val (.int p4), .val (.int p5), .val (.int p6), .val (.double (FP.i2d p3)), .second, .val (.double (FP.i2d p4)), .second, .val (.double (FP.i2d p5)), .second, .val (.double (FP.i2d p6)), .second, .val (.int (3 : Int32)), .unset, .unset, .unset] [(.double (FP.i2d p3)), (.int (0 : Int32)), (.ref b109), (.ref b109)])) rfl rfl (hb hby at_39)
      have z114 : n0 ≤ h113.size := Nat.le_trans z110 (Keep.of_wr W113).1
      have V113 : Arv Z h113 b109 k109 .double (1 : Int32) [(.double (FP.i2d p3))] (.double (0 : UInt64)) := Arv.set Ar111 Q111 S111 M111 H111 G111 rfl W113 0 rfl (Nat.le_of_ble_eq_true rfl)
      have N113 : Fr n0 _ := Fr.snoc X113 N0 g_b109
      obtain ⟨_, _, ⟨T115, L115, kk115, nn115⟩, -, X115, ⟨Lc115, hQ115, l115, y115, z115⟩, st115⟩ := Jvm.LawKit.callS X113 hx (y := (⟨"com/example/manyfront/manyfront/cli/ReferencePoint", "fit", "([DI)[D"⟩ : MethodName)) hown (mvT hZ (hw _ (List.mem_of_getElem? (i := 5) rfl))) (mvT hZ (hw _ (List.mem_of_getElem? (i := 6) rfl))) (mvT hZ (hw _ (List.mem_of_getElem? (i := 7) rfl))) (mvT hZ (hw _ (List.mem_of_getElem? (i := 8) rfl))) (by decide) (backOf (W := 0) (rmfitN3 l Z a0 hw [] b109 (FP.i2d p3) k109 h113 n0 z114 V113) hZ (hw _ (List.mem_of_getElem? (i := 8) rfl)) (hw _ (List.mem_of_getElem? (i := 7) rfl)) (by decide) (by decide)) (g := (mkF m 46 #[.val (.int p1), .val (.int p2), .val (.int p3), .val (.int p4), .val (.int p5), .val (.int p6), .val (.double (FP.i2d p3)), .second, .val (.double (FP.i2d p4)), .second, .val (.double (FP.i2d p5)), .second, .val (.double (FP.i2d p6)), .second, .val (.int (3 : Int32)), .val (.ref b109), .unset, .unset] [(.int (3 : Int32)), (.ref b109)])) rfl (by rw [hml]; rfl) (argsL := [(.ref b109), (.int (3 : Int32))]) (rest := []) (lenOf pd__28_5bDI_29_5bD rfl) rfl (by show 2 * 0 + _ ≤ _; exact Nat.le_of_eq rfl) (hb hby at_46) (fun _ _ => ⟨rfl, e113, (by decide : 1 + 1 ≤ _), (by decide : 1 + 3 ≤ _)⟩)
      dsimp only [Pt.U, Pt.locs, Pt.cells, Pt.slots] at X115 l115 y115 z115 st115 hQ115
      subst l115 y115 z115
      obtain ⟨b_115, kb_115, rfl, N115q, K115, x115_0, x115_1⟩ := hQ115
      have N115 := Fr.app N113 N115q
      have ne116 : b109 ≠ b_115 := Nat.ne_of_lt (Nat.lt_of_lt_of_le V113.lt x115_0)
      have g_b_115 : n0 ≤ b_115 := Nat.le_trans z114 x115_0
      have z117 : n0 ≤ T115.heap.size := Nat.le_trans z114 K115.1
      obtain ⟨cl118, Ar118, Q118, S118, M118, H118, G118⟩ := id x115_1
      have f119 : Arv Z T115.heap b109 k109 .double (1 : Int32) [(.double (FP.i2d p3))] (.double (0 : UInt64)) := (V113.keep K115 own_nm0)
      obtain ⟨cl120, Ar120, Q120, S120, M120, H120, G120⟩ := id f119
      obtain ⟨cl121, Ar121, Q121, S121, M121, H121, G121⟩ := id f119
      have in122 : ¬ ((0 : Int32) < 0 ∨ cl121.slots.size ≤ ((0 : Int32)).toNatClampNeg) := inb_of S121 ⟨by decide, by decide⟩
      have at123 : cl121.slots[((0 : Int32)).toNatClampNeg]? = some (.double (FP.i2d p3)) := H121 0 (by rw [S121]; decide)
      obtain ⟨cl124, Ar124, Q124, S124, M124, H124, G124⟩ := id x115_1
      have in125 : ¬ ((0 : Int32) < 0 ∨ cl124.slots.size ≤ ((0 : Int32)).toNatClampNeg) := inb_of S124 ⟨by decide, by decide⟩
      have at126 : cl124.slots[((0 : Int32)).toNatClampNeg]? = some (.double (FP.i2d p3)) := H124 0 (by rw [S124]; decide)
      obtain ⟨cl127, Ar127, Q127, S127, M127, H127, G127⟩ := id x115_1
      have in128 : ¬ ((1 : Int32) < 0 ∨ cl127.slots.size ≤ ((1 : Int32)).toNatClampNeg) := inb_of S127 ⟨by decide, by decide⟩
      have at129 : cl127.slots[((1 : Int32)).toNatClampNeg]? = some (.double (FP.i2d p3)) := H127 1 (by rw [S127]; decide)
      obtain ⟨cl130, Ar130, Q130, S130, M130, H130, G130⟩ := id x115_1
      have in131 : ¬ ((2 : Int32) < 0 ∨ cl130.slots.size ≤ ((2 : Int32)).toNatClampNeg) := inb_of S130 ⟨by decide, by decide⟩
      have at132 : cl130.slots[((2 : Int32)).toNatClampNeg]? = some (.double (FP.i2d p3)) := H130 2 (by rw [S130]; decide)
      have pre133 : ∀ t, Steps p.tables e below (T115.setTop (mkF m 172 #[.val (.int p1), .val (.int p2), .val (.int p3), .val (.int p4), .val (.int p5), .val (.int p6), .val (.double (FP.i2d p3)), .second, .val (.double (FP.i2d p4)), .second, .val (.double (FP.i2d p5)), .second, .val (.double (FP.i2d p6)), .second, .val (.int (3 : Int32)), .val (.ref b109), .val (.ref b_115), .unset] [(.int (1 : Int32))])) t → Steps p.tables e below (s₁.setTop (entryFrame m #[(.int p1), (.int p2), (.int p3), (.int p4), (.int p5), (.int p6)] maxLocals)) t := fun t kt => pre51 t (by
          show Steps p.tables e below (s₁.setTop (mkF m 24 #[.val (.int p1), .val (.int p2), .val (.int p3), .val (.int p4), .val (.int p5), .val (.int p6), .val (.double (FP.i2d p3)), .second, .val (.double (FP.i2d p4)), .second, .val (.double (FP.i2d p5)), .second, .val (.double (FP.i2d p6)), .second, .unset, .unset, .unset, .unset] [])) _
          refine XS.iloadN X0.here hx rfl (hb hby at_24) rfl ?_
          show Steps p.tables e below (s₁.setTop (mkF m 25 #[.val (.int p1), .val (.int p2), .val (.int p3), .val (.int p4), .val (.int p5), .val (.int p6), .val (.double (FP.i2d p3)), .second, .val (.double (FP.i2d p4)), .second, .val (.double (FP.i2d p5)), .second, .val (.double (FP.i2d p6)), .second, .unset, .unset, .unset, .unset] [(.int p2)])) _
          refine X0.ldcInt hx hown (mvT hZ (hw _ (List.mem_of_getElem? (i := 9) rfl))) (g := (mkF m 25 #[.val (.int p1), .val (.int p2), .val (.int p3), .val (.int p4), .val (.int p5), .val (.int p6), .val (.double (FP.i2d p3)), .second, .val (.double (FP.i2d p4)), .second, .val (.double (FP.i2d p5)), .second, .val (.double (FP.i2d p6)), .second, .unset, .unset, .unset, .unset] [(.int p2)])) rfl (hb hby at_25) _ ?_
          show Steps p.tables e below (s₁.setTop (mkF m 27 #[.val (.int p1), .val (.int p2), .val (.int p3), .val (.int p4), .val (.int p5), .val (.int p6), .val (.double (FP.i2d p3)), .second, .val (.double (FP.i2d p4)), .second, .val (.double (FP.i2d p5)), .second, .val (.double (FP.i2d p6)), .second, .unset, .unset, .unset, .unset] [(.int (2147483647 : Int32)), (.int p2)])) _
          refine XS.iand X0.here hx rfl (hb hby at_27) rfl ?_
          show Steps p.tables e below (s₁.setTop (mkF m 28 #[.val (.int p1), .val (.int p2), .val (.int p3), .val (.int p4), .val (.int p5), .val (.int p6), .val (.double (FP.i2d p3)), .second, .val (.double (FP.i2d p4)), .second, .val (.double (FP.i2d p5)), .second, .val (.double (FP.i2d p6)), .second, .unset, .unset, .unset, .unset] [(.int (p2 &&& (2147483647 : Int32)))])) _
          refine XS.iconst X0.here hx rfl (hb hby at_28) ?_
          show Steps p.tables e below (s₁.setTop (mkF m 29 #[.val (.int p1), .val (.int p2), .val (.int p3), .val (.int p4), .val (.int p5), .val (.int p6), .val (.double (FP.i2d p3)), .second, .val (.double (FP.i2d p4)), .second, .val (.double (FP.i2d p5)), .second, .val (.double (FP.i2d p6)), .second, .unset, .unset, .unset, .unset] [(.int (5 : Int32)), (.int (p2 &&& (2147483647 : Int32)))])) _
          refine iremM X0 hx rfl (hb hby at_29) rfl (by decide) ?_
          show Steps p.tables e below (s₁.setTop (mkF m 30 #[.val (.int p1), .val (.int p2), .val (.int p3), .val (.int p4), .val (.int p5), .val (.int p6), .val (.double (FP.i2d p3)), .second, .val (.double (FP.i2d p4)), .second, .val (.double (FP.i2d p5)), .second, .val (.double (FP.i2d p6)), .second, .unset, .unset, .unset, .unset] [(.int ((p2 &&& (2147483647 : Int32)) % (5 : Int32)))])) _
          rw [hk]
          show Steps p.tables e below (s₁.setTop (mkF m 30 #[.val (.int p1), .val (.int p2), .val (.int p3), .val (.int p4), .val (.int p5), .val (.int p6), .val (.double (FP.i2d p3)), .second, .val (.double (FP.i2d p4)), .second, .val (.double (FP.i2d p5)), .second, .val (.double (FP.i2d p6)), .second, .unset, .unset, .unset, .unset] [(.int (3 : Int32))])) _
          refine XS.istore X0.here hx rfl (hb hby at_30) rfl (l' := #[.val (.int p1), .val (.int p2), .val (.int p3), .val (.int p4), .val (.int p5), .val (.int p6), .val (.double (FP.i2d p3)), .second, .val (.double (FP.i2d p4)), .second, .val (.double (FP.i2d p5)), .second, .val (.double (FP.i2d p6)), .second, .val (.int (3 : Int32)), .unset, .unset, .unset]) rfl ?_
          show Steps p.tables e below (s₁.setTop (mkF m 32 #[.val (.int p1), .val (.int p2), .val (.int p3), .val (.int p4), .val (.int p5), .val (.int p6), .val (.double (FP.i2d p3)), .second, .val (.double (FP.i2d p4)), .second, .val (.double (FP.i2d p5)), .second, .val (.double (FP.i2d p6)), .second, .val (.int (3 : Int32)), .unset, .unset, .unset] [])) _
          refine XS.iconst X0.here hx rfl (hb hby at_32) ?_
          show Steps p.tables e below (s₁.setTop (mkF m 33 #[.val (.int p1), .val (.int p2), .val (.int p3), .val (.int p4), .val (.int p5), .val (.int p6), .val (.double (FP.i2d p3)), .second, .val (.double (FP.i2d p4)), .second, .val (.double (FP.i2d p5)), .second, .val (.double (FP.i2d p6)), .second, .val (.int (3 : Int32)), .unset, .unset, .unset] [(.int (1 : Int32))])) _
          refine st109 _ ?_
          show Steps p.tables e below (T109.setTop (mkF m 35 #[.val (.int p1), .val (.int p2), .val (.int p3), .val (.int p4), .val (.int p5), .val (.int p6), .val (.double (FP.i2d p3)), .second, .val (.double (FP.i2d p4)), .second, .val (.double (FP.i2d p5)), .second, .val (.double (FP.i2d p6)), .second, .val (.int (3 : Int32)), .unset, .unset, .unset] [(.ref b109)])) _
          refine XS.dup X109.here hx rfl (hb hby at_35) rfl rfl ?_
          show Steps p.tables e below (T109.setTop (mkF m 36 #[.val (.int p1), .val (.int p2), .val (.int p3), .val (.int p4), .val (.int p5), .val (.int p6), .val (.double (FP.i2d p3)), .second, .val (.double (FP.i2d p4)), .second, .val (.double (FP.i2d p5)), .second, .val (.double (FP.i2d p6)), .second, .val (.int (3 : Int32)), .unset, .unset, .unset] [(.ref b109), (.ref b109)])) _
          refine XS.iconst X109.here hx rfl (hb hby at_36) ?_
          show Steps p.tables e below (T109.setTop (mkF m 37 #[.val (.int p1), .val (.int p2), .val (.int p3), .val (.int p4), .val (.int p5), .val (.int p6), .val (.double (FP.i2d p3)), .second, .val (.double (FP.i2d p4)), .second, .val (.double (FP.i2d p5)), .second, .val (.double (FP.i2d p6)), .second, .val (.int (3 : Int32)), .unset, .unset, .unset] [(.int (0 : Int32)), (.ref b109), (.ref b109)])) _
          refine XS.dload X109.here hx rfl (hb hby at_37) rfl ?_
          show Steps p.tables e below (T109.setTop (mkF m 39 #[.val (.int p1), .val (.int p2), .val (.int p3), .val (.int p4), .val (.int p5), .val (.int p6), .val (.double (FP.i2d p3)), .second, .val (.double (FP.i2d p4)), .second, .val (.double (FP.i2d p5)), .second, .val (.double (FP.i2d p6)), .second, .val (.int (3 : Int32)), .unset, .unset, .unset] [(.double (FP.i2d p3)), (.int (0 : Int32)), (.ref b109), (.ref b109)])) _
          refine st113 _ ?_
          show Steps p.tables e below (T113.setTop (mkF m 40 #[.val (.int p1), .val (.int p2), .val (.int p3), .val (.int p4), .val (.int p5), .val (.int p6), .val (.double (FP.i2d p3)), .second, .val (.double (FP.i2d p4)), .second, .val (.double (FP.i2d p5)), .second, .val (.double (FP.i2d p6)), .second, .val (.int (3 : Int32)), .unset, .unset, .unset] [(.ref b109)])) _
          refine XS.astore X113.here hx rfl (hb hby at_40) rfl rfl (l' := #[.val (.int p1), .val (.int p2), .val (.int p3), .val (.int p4), .val (.int p5), .val (.int p6), .val (.double (FP.i2d p3)), .second, .val (.double (FP.i2d p4)), .second, .val (.double (FP.i2d p5)), .second, .val (.double (FP.i2d p6)), .second, .val (.int (3 : Int32)), .val (.ref b109), .unset, .unset]) rfl ?_
          show Steps p.tables e below (T113.setTop (mkF m 42 #[.val (.int p1), .val (.int p2), .val (.int p3), .val (.int p4), .val (.int p5), .val (.int p6), .val (.double (FP.i2d p3)), .second, .val (.double (FP.i2d p4)), .second, .val (.double (FP.i2d p5)), .second, .val (.double (FP.i2d p6)), .second, .val (.int (3 : Int32)), .val (.ref b109), .unset, .unset] [])) _
          refine XS.aload X113.here hx rfl (hb hby at_42) rfl rfl ?_
          show Steps p.tables e below (T113.setTop (mkF m 44 #[.val (.int p1), .val (.int p2), .val (.int p3), .val (.int p4), .val (.int p5), .val (.int p6), .val (.double (FP.i2d p3)), .second, .val (.double (FP.i2d p4)), .second, .val (.double (FP.i2d p5)), .second, .val (.double (FP.i2d p6)), .second, .val (.int (3 : Int32)), .val (.ref b109), .unset, .unset] [(.ref b109)])) _
          refine XS.iload X113.here hx rfl (hb hby at_44) rfl ?_
          show Steps p.tables e below (T113.setTop (mkF m 46 #[.val (.int p1), .val (.int p2), .val (.int p3), .val (.int p4), .val (.int p5), .val (.int p6), .val (.double (FP.i2d p3)), .second, .val (.double (FP.i2d p4)), .second, .val (.double (FP.i2d p5)), .second, .val (.double (FP.i2d p6)), .second, .val (.int (3 : Int32)), .val (.ref b109), .unset, .unset] [(.int (3 : Int32)), (.ref b109)])) _
          refine st115 _ ?_
          show Steps p.tables e below (T115.setTop (mkF m 49 #[.val (.int p1), .val (.int p2), .val (.int p3), .val (.int p4), .val (.int p5), .val (.int p6), .val (.double (FP.i2d p3)), .second, .val (.double (FP.i2d p4)), .second, .val (.double (FP.i2d p5)), .second, .val (.double (FP.i2d p6)), .second, .val (.int (3 : Int32)), .val (.ref b109), .unset, .unset] [(.ref b_115)])) _
          refine XS.astore X115.here hx rfl (hb hby at_49) rfl rfl (l' := #[.val (.int p1), .val (.int p2), .val (.int p3), .val (.int p4), .val (.int p5), .val (.int p6), .val (.double (FP.i2d p3)), .second, .val (.double (FP.i2d p4)), .second, .val (.double (FP.i2d p5)), .second, .val (.double (FP.i2d p6)), .second, .val (.int (3 : Int32)), .val (.ref b109), .val (.ref b_115), .unset]) rfl ?_
          show Steps p.tables e below (T115.setTop (mkF m 51 #[.val (.int p1), .val (.int p2), .val (.int p3), .val (.int p4), .val (.int p5), .val (.int p6), .val (.double (FP.i2d p3)), .second, .val (.double (FP.i2d p4)), .second, .val (.double (FP.i2d p5)), .second, .val (.double (FP.i2d p6)), .second, .val (.int (3 : Int32)), .val (.ref b109), .val (.ref b_115), .unset] [])) _
          refine XS.aload X115.here hx rfl (hb hby at_51) rfl rfl ?_
          show Steps p.tables e below (T115.setTop (mkF m 53 #[.val (.int p1), .val (.int p2), .val (.int p3), .val (.int p4), .val (.int p5), .val (.int p6), .val (.double (FP.i2d p3)), .second, .val (.double (FP.i2d p4)), .second, .val (.double (FP.i2d p5)), .second, .val (.double (FP.i2d p6)), .second, .val (.int (3 : Int32)), .val (.ref b109), .val (.ref b_115), .unset] [(.ref b_115)])) _
          refine XS.ifnullNo X115.here hx rfl (hb hby at_53) rfl ?_
          show Steps p.tables e below (T115.setTop (mkF m 56 #[.val (.int p1), .val (.int p2), .val (.int p3), .val (.int p4), .val (.int p5), .val (.int p6), .val (.double (FP.i2d p3)), .second, .val (.double (FP.i2d p4)), .second, .val (.double (FP.i2d p5)), .second, .val (.double (FP.i2d p6)), .second, .val (.int (3 : Int32)), .val (.ref b109), .val (.ref b_115), .unset] [])) _
          refine XS.aload X115.here hx rfl (hb hby at_56) rfl rfl ?_
          show Steps p.tables e below (T115.setTop (mkF m 58 #[.val (.int p1), .val (.int p2), .val (.int p3), .val (.int p4), .val (.int p5), .val (.int p6), .val (.double (FP.i2d p3)), .second, .val (.double (FP.i2d p4)), .second, .val (.double (FP.i2d p5)), .second, .val (.double (FP.i2d p6)), .second, .val (.int (3 : Int32)), .val (.ref b109), .val (.ref b_115), .unset] [(.ref b_115)])) _
          refine X115.arraylength hx (cell := cl118) Ar118.1 (State.isArrayOf_alike hZ.alike Ar118.2.1) (g := (mkF m 58 #[.val (.int p1), .val (.int p2), .val (.int p3), .val (.int p4), .val (.int p5), .val (.int p6), .val (.double (FP.i2d p3)), .second, .val (.double (FP.i2d p4)), .second, .val (.double (FP.i2d p5)), .second, .val (.double (FP.i2d p6)), .second, .val (.int (3 : Int32)), .val (.ref b109), .val (.ref b_115), .unset] [(.ref b_115)])) rfl rfl (hb hby at_58) _ ?_
          rw [len_of S118 M118]
          show Steps p.tables e below (T115.setTop (mkF m 59 #[.val (.int p1), .val (.int p2), .val (.int p3), .val (.int p4), .val (.int p5), .val (.int p6), .val (.double (FP.i2d p3)), .second, .val (.double (FP.i2d p4)), .second, .val (.double (FP.i2d p5)), .second, .val (.double (FP.i2d p6)), .second, .val (.int (3 : Int32)), .val (.ref b109), .val (.ref b_115), .unset] [(.int (3 : Int32))])) _
          refine XS.iload X115.here hx rfl (hb hby at_59) rfl ?_
          show Steps p.tables e below (T115.setTop (mkF m 61 #[.val (.int p1), .val (.int p2), .val (.int p3), .val (.int p4), .val (.int p5), .val (.int p6), .val (.double (FP.i2d p3)), .second, .val (.double (FP.i2d p4)), .second, .val (.double (FP.i2d p5)), .second, .val (.double (FP.i2d p6)), .second, .val (.int (3 : Int32)), .val (.ref b109), .val (.ref b_115), .unset] [(.int (3 : Int32)), (.int (3 : Int32))])) _
          refine XS.icmpYes X115.here hx rfl (pc0 := 61) (pc' := 66) rfl (hb hby at_61) rfl (teq ((by decide) : (3 : Int32) = (3 : Int32))).1 (by decide) (by decide) ?_
          show Steps p.tables e below (T115.setTop (mkF m 66 #[.val (.int p1), .val (.int p2), .val (.int p3), .val (.int p4), .val (.int p5), .val (.int p6), .val (.double (FP.i2d p3)), .second, .val (.double (FP.i2d p4)), .second, .val (.double (FP.i2d p5)), .second, .val (.double (FP.i2d p6)), .second, .val (.int (3 : Int32)), .val (.ref b109), .val (.ref b_115), .unset] [])) _
          refine XS.iload X115.here hx rfl (hb hby at_66) rfl ?_
          show Steps p.tables e below (T115.setTop (mkF m 68 #[.val (.int p1), .val (.int p2), .val (.int p3), .val (.int p4), .val (.int p5), .val (.int p6), .val (.double (FP.i2d p3)), .second, .val (.double (FP.i2d p4)), .second, .val (.double (FP.i2d p5)), .second, .val (.double (FP.i2d p6)), .second, .val (.int (3 : Int32)), .val (.ref b109), .val (.ref b_115), .unset] [(.int (3 : Int32))])) _
          refine XS.iconst X115.here hx rfl (hb hby at_68) ?_
          show Steps p.tables e below (T115.setTop (mkF m 69 #[.val (.int p1), .val (.int p2), .val (.int p3), .val (.int p4), .val (.int p5), .val (.int p6), .val (.double (FP.i2d p3)), .second, .val (.double (FP.i2d p4)), .second, .val (.double (FP.i2d p5)), .second, .val (.double (FP.i2d p6)), .second, .val (.int (3 : Int32)), .val (.ref b109), .val (.ref b_115), .unset] [(.int (1 : Int32)), (.int (3 : Int32))])) _
          refine XS.icmpNo X115.here hx rfl (hb hby at_69) rfl (feq ((by decide) : ¬ ((3 : Int32) = (1 : Int32)))).1 ?_
          show Steps p.tables e below (T115.setTop (mkF m 72 #[.val (.int p1), .val (.int p2), .val (.int p3), .val (.int p4), .val (.int p5), .val (.int p6), .val (.double (FP.i2d p3)), .second, .val (.double (FP.i2d p4)), .second, .val (.double (FP.i2d p5)), .second, .val (.double (FP.i2d p6)), .second, .val (.int (3 : Int32)), .val (.ref b109), .val (.ref b_115), .unset] [])) _
          refine XS.aload X115.here hx rfl (hb hby at_72) rfl rfl ?_
          show Steps p.tables e below (T115.setTop (mkF m 74 #[.val (.int p1), .val (.int p2), .val (.int p3), .val (.int p4), .val (.int p5), .val (.int p6), .val (.double (FP.i2d p3)), .second, .val (.double (FP.i2d p4)), .second, .val (.double (FP.i2d p5)), .second, .val (.double (FP.i2d p6)), .second, .val (.int (3 : Int32)), .val (.ref b109), .val (.ref b_115), .unset] [(.ref b_115)])) _
          refine XS.aload X115.here hx rfl (hb hby at_74) rfl rfl ?_
          show Steps p.tables e below (T115.setTop (mkF m 76 #[.val (.int p1), .val (.int p2), .val (.int p3), .val (.int p4), .val (.int p5), .val (.int p6), .val (.double (FP.i2d p3)), .second, .val (.double (FP.i2d p4)), .second, .val (.double (FP.i2d p5)), .second, .val (.double (FP.i2d p6)), .second, .val (.int (3 : Int32)), .val (.ref b109), .val (.ref b_115), .unset] [(.ref b109), (.ref b_115)])) _
          refine Jvm.RoadKit.acmp (g := (mkF m 76 #[.val (.int p1), .val (.int p2), .val (.int p3), .val (.int p4), .val (.int p5), .val (.int p6), .val (.double (FP.i2d p3)), .second, .val (.double (FP.i2d p4)), .second, .val (.double (FP.i2d p5)), .second, .val (.double (FP.i2d p6)), .second, .val (.int (3 : Int32)), .val (.ref b109), .val (.ref b_115), .unset] [(.ref b109), (.ref b_115)])) X115 hx rfl rfl rfl (pc0 := 76) (pc' := 81) (same := false) rfl (hb hby at_76) rfl (decide_eq_false fun q => (Ne.symm ne116) (Value.ref.inj q)) (by decide) (by decide) ?_
          show Steps p.tables e below (T115.setTop (mkF m 81 #[.val (.int p1), .val (.int p2), .val (.int p3), .val (.int p4), .val (.int p5), .val (.int p6), .val (.double (FP.i2d p3)), .second, .val (.double (FP.i2d p4)), .second, .val (.double (FP.i2d p5)), .second, .val (.double (FP.i2d p6)), .second, .val (.int (3 : Int32)), .val (.ref b109), .val (.ref b_115), .unset] [])) _
          refine XS.aload X115.here hx rfl (hb hby at_81) rfl rfl ?_
          show Steps p.tables e below (T115.setTop (mkF m 83 #[.val (.int p1), .val (.int p2), .val (.int p3), .val (.int p4), .val (.int p5), .val (.int p6), .val (.double (FP.i2d p3)), .second, .val (.double (FP.i2d p4)), .second, .val (.double (FP.i2d p5)), .second, .val (.double (FP.i2d p6)), .second, .val (.int (3 : Int32)), .val (.ref b109), .val (.ref b_115), .unset] [(.ref b109)])) _
          refine X115.arraylength hx (cell := cl120) Ar120.1 (State.isArrayOf_alike hZ.alike Ar120.2.1) (g := (mkF m 83 #[.val (.int p1), .val (.int p2), .val (.int p3), .val (.int p4), .val (.int p5), .val (.int p6), .val (.double (FP.i2d p3)), .second, .val (.double (FP.i2d p4)), .second, .val (.double (FP.i2d p5)), .second, .val (.double (FP.i2d p6)), .second, .val (.int (3 : Int32)), .val (.ref b109), .val (.ref b_115), .unset] [(.ref b109)])) rfl rfl (hb hby at_83) _ ?_
          rw [len_of S120 M120]
          show Steps p.tables e below (T115.setTop (mkF m 84 #[.val (.int p1), .val (.int p2), .val (.int p3), .val (.int p4), .val (.int p5), .val (.int p6), .val (.double (FP.i2d p3)), .second, .val (.double (FP.i2d p4)), .second, .val (.double (FP.i2d p5)), .second, .val (.double (FP.i2d p6)), .second, .val (.int (3 : Int32)), .val (.ref b109), .val (.ref b_115), .unset] [(.int (1 : Int32))])) _
          refine XS.iconst X115.here hx rfl (hb hby at_84) ?_
          show Steps p.tables e below (T115.setTop (mkF m 85 #[.val (.int p1), .val (.int p2), .val (.int p3), .val (.int p4), .val (.int p5), .val (.int p6), .val (.double (FP.i2d p3)), .second, .val (.double (FP.i2d p4)), .second, .val (.double (FP.i2d p5)), .second, .val (.double (FP.i2d p6)), .second, .val (.int (3 : Int32)), .val (.ref b109), .val (.ref b_115), .unset] [(.int (1 : Int32)), (.int (1 : Int32))])) _
          refine XS.icmpNo X115.here hx rfl (hb hby at_85) rfl (teq ((by decide) : (1 : Int32) = (1 : Int32))).2 ?_
          show Steps p.tables e below (T115.setTop (mkF m 88 #[.val (.int p1), .val (.int p2), .val (.int p3), .val (.int p4), .val (.int p5), .val (.int p6), .val (.double (FP.i2d p3)), .second, .val (.double (FP.i2d p4)), .second, .val (.double (FP.i2d p5)), .second, .val (.double (FP.i2d p6)), .second, .val (.int (3 : Int32)), .val (.ref b109), .val (.ref b_115), .unset] [])) _
          refine XS.aload X115.here hx rfl (hb hby at_88) rfl rfl ?_
          show Steps p.tables e below (T115.setTop (mkF m 90 #[.val (.int p1), .val (.int p2), .val (.int p3), .val (.int p4), .val (.int p5), .val (.int p6), .val (.double (FP.i2d p3)), .second, .val (.double (FP.i2d p4)), .second, .val (.double (FP.i2d p5)), .second, .val (.double (FP.i2d p6)), .second, .val (.int (3 : Int32)), .val (.ref b109), .val (.ref b_115), .unset] [(.ref b109)])) _
          refine XS.iconst X115.here hx rfl (hb hby at_90) ?_
          show Steps p.tables e below (T115.setTop (mkF m 91 #[.val (.int p1), .val (.int p2), .val (.int p3), .val (.int p4), .val (.int p5), .val (.int p6), .val (.double (FP.i2d p3)), .second, .val (.double (FP.i2d p4)), .second, .val (.double (FP.i2d p5)), .second, .val (.double (FP.i2d p6)), .second, .val (.int (3 : Int32)), .val (.ref b109), .val (.ref b_115), .unset] [(.int (0 : Int32)), (.ref b109)])) _
          refine X115.daload hx (j := (0 : Int32)) (v := (.double (FP.i2d p3))) Ar121.1 (State.isArrayOf_alike hZ.alike Ar121.2.1) Ar121.2.2 in122 at123 (g := (mkF m 91 #[.val (.int p1), .val (.int p2), .val (.int p3), .val (.int p4), .val (.int p5), .val (.int p6), .val (.double (FP.i2d p3)), .second, .val (.double (FP.i2d p4)), .second, .val (.double (FP.i2d p5)), .second, .val (.double (FP.i2d p6)), .second, .val (.int (3 : Int32)), .val (.ref b109), .val (.ref b_115), .unset] [(.int (0 : Int32)), (.ref b109)])) rfl rfl (hb hby at_91) _ ?_
          show Steps p.tables e below (T115.setTop (mkF m 92 #[.val (.int p1), .val (.int p2), .val (.int p3), .val (.int p4), .val (.int p5), .val (.int p6), .val (.double (FP.i2d p3)), .second, .val (.double (FP.i2d p4)), .second, .val (.double (FP.i2d p5)), .second, .val (.double (FP.i2d p6)), .second, .val (.int (3 : Int32)), .val (.ref b109), .val (.ref b_115), .unset] [(.double (FP.i2d p3))])) _
          refine XS.dload X115.here hx rfl (hb hby at_92) rfl ?_
          show Steps p.tables e below (T115.setTop (mkF m 94 #[.val (.int p1), .val (.int p2), .val (.int p3), .val (.int p4), .val (.int p5), .val (.int p6), .val (.double (FP.i2d p3)), .second, .val (.double (FP.i2d p4)), .second, .val (.double (FP.i2d p5)), .second, .val (.double (FP.i2d p6)), .second, .val (.int (3 : Int32)), .val (.ref b109), .val (.ref b_115), .unset] [(.double (FP.i2d p3)), (.double (FP.i2d p3))])) _
          refine XS.dcmpS X115.here hx rfl (hb hby at_94) rfl (v := (0 : Int32)) (dcmpV_self (Fl.i2d_fin _).noNaN .l) ?_
          show Steps p.tables e below (T115.setTop (mkF m 95 #[.val (.int p1), .val (.int p2), .val (.int p3), .val (.int p4), .val (.int p5), .val (.int p6), .val (.double (FP.i2d p3)), .second, .val (.double (FP.i2d p4)), .second, .val (.double (FP.i2d p5)), .second, .val (.double (FP.i2d p6)), .second, .val (.int (3 : Int32)), .val (.ref b109), .val (.ref b_115), .unset] [(.int (0 : Int32))])) _
          refine XS.ifYes X115.here hx rfl (pc0 := 95) (pc' := 100) rfl (hb hby at_95) rfl ((if0 _ _).trans (teq ((by decide) : (0 : Int32) = (0 : Int32))).1) (by decide) (by decide) ?_
          show Steps p.tables e below (T115.setTop (mkF m 100 #[.val (.int p1), .val (.int p2), .val (.int p3), .val (.int p4), .val (.int p5), .val (.int p6), .val (.double (FP.i2d p3)), .second, .val (.double (FP.i2d p4)), .second, .val (.double (FP.i2d p5)), .second, .val (.double (FP.i2d p6)), .second, .val (.int (3 : Int32)), .val (.ref b109), .val (.ref b_115), .unset] [])) _
          refine XS.iload X115.here hx rfl (hb hby at_100) rfl ?_
          show Steps p.tables e below (T115.setTop (mkF m 102 #[.val (.int p1), .val (.int p2), .val (.int p3), .val (.int p4), .val (.int p5), .val (.int p6), .val (.double (FP.i2d p3)), .second, .val (.double (FP.i2d p4)), .second, .val (.double (FP.i2d p5)), .second, .val (.double (FP.i2d p6)), .second, .val (.int (3 : Int32)), .val (.ref b109), .val (.ref b_115), .unset] [(.int (3 : Int32))])) _
          refine XS.ifNo X115.here hx rfl (hb hby at_102) rfl ((if0 _ _).trans (tlt ((by decide) : (0 : Int32) < (3 : Int32))).2.2.2) ?_
          show Steps p.tables e below (T115.setTop (mkF m 105 #[.val (.int p1), .val (.int p2), .val (.int p3), .val (.int p4), .val (.int p5), .val (.int p6), .val (.double (FP.i2d p3)), .second, .val (.double (FP.i2d p4)), .second, .val (.double (FP.i2d p5)), .second, .val (.double (FP.i2d p6)), .second, .val (.int (3 : Int32)), .val (.ref b109), .val (.ref b_115), .unset] [])) _
          refine XS.aload X115.here hx rfl (hb hby at_105) rfl rfl ?_
          show Steps p.tables e below (T115.setTop (mkF m 107 #[.val (.int p1), .val (.int p2), .val (.int p3), .val (.int p4), .val (.int p5), .val (.int p6), .val (.double (FP.i2d p3)), .second, .val (.double (FP.i2d p4)), .second, .val (.double (FP.i2d p5)), .second, .val (.double (FP.i2d p6)), .second, .val (.int (3 : Int32)), .val (.ref b109), .val (.ref b_115), .unset] [(.ref b_115)])) _
          refine XS.iconst X115.here hx rfl (hb hby at_107) ?_
          show Steps p.tables e below (T115.setTop (mkF m 108 #[.val (.int p1), .val (.int p2), .val (.int p3), .val (.int p4), .val (.int p5), .val (.int p6), .val (.double (FP.i2d p3)), .second, .val (.double (FP.i2d p4)), .second, .val (.double (FP.i2d p5)), .second, .val (.double (FP.i2d p6)), .second, .val (.int (3 : Int32)), .val (.ref b109), .val (.ref b_115), .unset] [(.int (0 : Int32)), (.ref b_115)])) _
          refine X115.daload hx (j := (0 : Int32)) (v := (.double (FP.i2d p3))) Ar124.1 (State.isArrayOf_alike hZ.alike Ar124.2.1) Ar124.2.2 in125 at126 (g := (mkF m 108 #[.val (.int p1), .val (.int p2), .val (.int p3), .val (.int p4), .val (.int p5), .val (.int p6), .val (.double (FP.i2d p3)), .second, .val (.double (FP.i2d p4)), .second, .val (.double (FP.i2d p5)), .second, .val (.double (FP.i2d p6)), .second, .val (.int (3 : Int32)), .val (.ref b109), .val (.ref b_115), .unset] [(.int (0 : Int32)), (.ref b_115)])) rfl rfl (hb hby at_108) _ ?_
          show Steps p.tables e below (T115.setTop (mkF m 109 #[.val (.int p1), .val (.int p2), .val (.int p3), .val (.int p4), .val (.int p5), .val (.int p6), .val (.double (FP.i2d p3)), .second, .val (.double (FP.i2d p4)), .second, .val (.double (FP.i2d p5)), .second, .val (.double (FP.i2d p6)), .second, .val (.int (3 : Int32)), .val (.ref b109), .val (.ref b_115), .unset] [(.double (FP.i2d p3))])) _
          refine XS.dload X115.here hx rfl (hb hby at_109) rfl ?_
          show Steps p.tables e below (T115.setTop (mkF m 111 #[.val (.int p1), .val (.int p2), .val (.int p3), .val (.int p4), .val (.int p5), .val (.int p6), .val (.double (FP.i2d p3)), .second, .val (.double (FP.i2d p4)), .second, .val (.double (FP.i2d p5)), .second, .val (.double (FP.i2d p6)), .second, .val (.int (3 : Int32)), .val (.ref b109), .val (.ref b_115), .unset] [(.double (FP.i2d p3)), (.double (FP.i2d p3))])) _
          refine XS.dcmpS X115.here hx rfl (hb hby at_111) rfl (v := (0 : Int32)) (dcmpV_self (Fl.i2d_fin _).noNaN .l) ?_
          show Steps p.tables e below (T115.setTop (mkF m 112 #[.val (.int p1), .val (.int p2), .val (.int p3), .val (.int p4), .val (.int p5), .val (.int p6), .val (.double (FP.i2d p3)), .second, .val (.double (FP.i2d p4)), .second, .val (.double (FP.i2d p5)), .second, .val (.double (FP.i2d p6)), .second, .val (.int (3 : Int32)), .val (.ref b109), .val (.ref b_115), .unset] [(.int (0 : Int32))])) _
          refine XS.ifYes X115.here hx rfl (pc0 := 112) (pc' := 117) rfl (hb hby at_112) rfl ((if0 _ _).trans (teq ((by decide) : (0 : Int32) = (0 : Int32))).1) (by decide) (by decide) ?_
          show Steps p.tables e below (T115.setTop (mkF m 117 #[.val (.int p1), .val (.int p2), .val (.int p3), .val (.int p4), .val (.int p5), .val (.int p6), .val (.double (FP.i2d p3)), .second, .val (.double (FP.i2d p4)), .second, .val (.double (FP.i2d p5)), .second, .val (.double (FP.i2d p6)), .second, .val (.int (3 : Int32)), .val (.ref b109), .val (.ref b_115), .unset] [])) _
          refine XS.iload X115.here hx rfl (hb hby at_117) rfl ?_
          show Steps p.tables e below (T115.setTop (mkF m 119 #[.val (.int p1), .val (.int p2), .val (.int p3), .val (.int p4), .val (.int p5), .val (.int p6), .val (.double (FP.i2d p3)), .second, .val (.double (FP.i2d p4)), .second, .val (.double (FP.i2d p5)), .second, .val (.double (FP.i2d p6)), .second, .val (.int (3 : Int32)), .val (.ref b109), .val (.ref b_115), .unset] [(.int (3 : Int32))])) _
          refine XS.iconst X115.here hx rfl (hb hby at_119) ?_
          show Steps p.tables e below (T115.setTop (mkF m 120 #[.val (.int p1), .val (.int p2), .val (.int p3), .val (.int p4), .val (.int p5), .val (.int p6), .val (.double (FP.i2d p3)), .second, .val (.double (FP.i2d p4)), .second, .val (.double (FP.i2d p5)), .second, .val (.double (FP.i2d p6)), .second, .val (.int (3 : Int32)), .val (.ref b109), .val (.ref b_115), .unset] [(.int (1 : Int32)), (.int (3 : Int32))])) _
          refine XS.icmpNo X115.here hx rfl (hb hby at_120) rfl (tlt ((by decide) : (1 : Int32) < (3 : Int32))).2.2.2 ?_
          show Steps p.tables e below (T115.setTop (mkF m 123 #[.val (.int p1), .val (.int p2), .val (.int p3), .val (.int p4), .val (.int p5), .val (.int p6), .val (.double (FP.i2d p3)), .second, .val (.double (FP.i2d p4)), .second, .val (.double (FP.i2d p5)), .second, .val (.double (FP.i2d p6)), .second, .val (.int (3 : Int32)), .val (.ref b109), .val (.ref b_115), .unset] [])) _
          refine XS.aload X115.here hx rfl (hb hby at_123) rfl rfl ?_
          show Steps p.tables e below (T115.setTop (mkF m 125 #[.val (.int p1), .val (.int p2), .val (.int p3), .val (.int p4), .val (.int p5), .val (.int p6), .val (.double (FP.i2d p3)), .second, .val (.double (FP.i2d p4)), .second, .val (.double (FP.i2d p5)), .second, .val (.double (FP.i2d p6)), .second, .val (.int (3 : Int32)), .val (.ref b109), .val (.ref b_115), .unset] [(.ref b_115)])) _
          refine XS.iconst X115.here hx rfl (hb hby at_125) ?_
          show Steps p.tables e below (T115.setTop (mkF m 126 #[.val (.int p1), .val (.int p2), .val (.int p3), .val (.int p4), .val (.int p5), .val (.int p6), .val (.double (FP.i2d p3)), .second, .val (.double (FP.i2d p4)), .second, .val (.double (FP.i2d p5)), .second, .val (.double (FP.i2d p6)), .second, .val (.int (3 : Int32)), .val (.ref b109), .val (.ref b_115), .unset] [(.int (1 : Int32)), (.ref b_115)])) _
          refine X115.daload hx (j := (1 : Int32)) (v := (.double (FP.i2d p3))) Ar127.1 (State.isArrayOf_alike hZ.alike Ar127.2.1) Ar127.2.2 in128 at129 (g := (mkF m 126 #[.val (.int p1), .val (.int p2), .val (.int p3), .val (.int p4), .val (.int p5), .val (.int p6), .val (.double (FP.i2d p3)), .second, .val (.double (FP.i2d p4)), .second, .val (.double (FP.i2d p5)), .second, .val (.double (FP.i2d p6)), .second, .val (.int (3 : Int32)), .val (.ref b109), .val (.ref b_115), .unset] [(.int (1 : Int32)), (.ref b_115)])) rfl rfl (hb hby at_126) _ ?_
          show Steps p.tables e below (T115.setTop (mkF m 127 #[.val (.int p1), .val (.int p2), .val (.int p3), .val (.int p4), .val (.int p5), .val (.int p6), .val (.double (FP.i2d p3)), .second, .val (.double (FP.i2d p4)), .second, .val (.double (FP.i2d p5)), .second, .val (.double (FP.i2d p6)), .second, .val (.int (3 : Int32)), .val (.ref b109), .val (.ref b_115), .unset] [(.double (FP.i2d p3))])) _
          refine XS.dload X115.here hx rfl (hb hby at_127) rfl ?_
          show Steps p.tables e below (T115.setTop (mkF m 129 #[.val (.int p1), .val (.int p2), .val (.int p3), .val (.int p4), .val (.int p5), .val (.int p6), .val (.double (FP.i2d p3)), .second, .val (.double (FP.i2d p4)), .second, .val (.double (FP.i2d p5)), .second, .val (.double (FP.i2d p6)), .second, .val (.int (3 : Int32)), .val (.ref b109), .val (.ref b_115), .unset] [(.double (FP.i2d p3)), (.double (FP.i2d p3))])) _
          refine XS.dcmpS X115.here hx rfl (hb hby at_129) rfl (v := (0 : Int32)) (dcmpV_self (Fl.i2d_fin _).noNaN .l) ?_
          show Steps p.tables e below (T115.setTop (mkF m 130 #[.val (.int p1), .val (.int p2), .val (.int p3), .val (.int p4), .val (.int p5), .val (.int p6), .val (.double (FP.i2d p3)), .second, .val (.double (FP.i2d p4)), .second, .val (.double (FP.i2d p5)), .second, .val (.double (FP.i2d p6)), .second, .val (.int (3 : Int32)), .val (.ref b109), .val (.ref b_115), .unset] [(.int (0 : Int32))])) _
          refine XS.ifYes X115.here hx rfl (pc0 := 130) (pc' := 135) rfl (hb hby at_130) rfl ((if0 _ _).trans (teq ((by decide) : (0 : Int32) = (0 : Int32))).1) (by decide) (by decide) ?_
          show Steps p.tables e below (T115.setTop (mkF m 135 #[.val (.int p1), .val (.int p2), .val (.int p3), .val (.int p4), .val (.int p5), .val (.int p6), .val (.double (FP.i2d p3)), .second, .val (.double (FP.i2d p4)), .second, .val (.double (FP.i2d p5)), .second, .val (.double (FP.i2d p6)), .second, .val (.int (3 : Int32)), .val (.ref b109), .val (.ref b_115), .unset] [])) _
          refine XS.iload X115.here hx rfl (hb hby at_135) rfl ?_
          show Steps p.tables e below (T115.setTop (mkF m 137 #[.val (.int p1), .val (.int p2), .val (.int p3), .val (.int p4), .val (.int p5), .val (.int p6), .val (.double (FP.i2d p3)), .second, .val (.double (FP.i2d p4)), .second, .val (.double (FP.i2d p5)), .second, .val (.double (FP.i2d p6)), .second, .val (.int (3 : Int32)), .val (.ref b109), .val (.ref b_115), .unset] [(.int (3 : Int32))])) _
          refine XS.iconst X115.here hx rfl (hb hby at_137) ?_
          show Steps p.tables e below (T115.setTop (mkF m 138 #[.val (.int p1), .val (.int p2), .val (.int p3), .val (.int p4), .val (.int p5), .val (.int p6), .val (.double (FP.i2d p3)), .second, .val (.double (FP.i2d p4)), .second, .val (.double (FP.i2d p5)), .second, .val (.double (FP.i2d p6)), .second, .val (.int (3 : Int32)), .val (.ref b109), .val (.ref b_115), .unset] [(.int (2 : Int32)), (.int (3 : Int32))])) _
          refine XS.icmpNo X115.here hx rfl (hb hby at_138) rfl (tlt ((by decide) : (2 : Int32) < (3 : Int32))).2.2.2 ?_
          show Steps p.tables e below (T115.setTop (mkF m 141 #[.val (.int p1), .val (.int p2), .val (.int p3), .val (.int p4), .val (.int p5), .val (.int p6), .val (.double (FP.i2d p3)), .second, .val (.double (FP.i2d p4)), .second, .val (.double (FP.i2d p5)), .second, .val (.double (FP.i2d p6)), .second, .val (.int (3 : Int32)), .val (.ref b109), .val (.ref b_115), .unset] [])) _
          refine XS.aload X115.here hx rfl (hb hby at_141) rfl rfl ?_
          show Steps p.tables e below (T115.setTop (mkF m 143 #[.val (.int p1), .val (.int p2), .val (.int p3), .val (.int p4), .val (.int p5), .val (.int p6), .val (.double (FP.i2d p3)), .second, .val (.double (FP.i2d p4)), .second, .val (.double (FP.i2d p5)), .second, .val (.double (FP.i2d p6)), .second, .val (.int (3 : Int32)), .val (.ref b109), .val (.ref b_115), .unset] [(.ref b_115)])) _
          refine XS.iconst X115.here hx rfl (hb hby at_143) ?_
          show Steps p.tables e below (T115.setTop (mkF m 144 #[.val (.int p1), .val (.int p2), .val (.int p3), .val (.int p4), .val (.int p5), .val (.int p6), .val (.double (FP.i2d p3)), .second, .val (.double (FP.i2d p4)), .second, .val (.double (FP.i2d p5)), .second, .val (.double (FP.i2d p6)), .second, .val (.int (3 : Int32)), .val (.ref b109), .val (.ref b_115), .unset] [(.int (2 : Int32)), (.ref b_115)])) _
          refine X115.daload hx (j := (2 : Int32)) (v := (.double (FP.i2d p3))) Ar130.1 (State.isArrayOf_alike hZ.alike Ar130.2.1) Ar130.2.2 in131 at132 (g := (mkF m 144 #[.val (.int p1), .val (.int p2), .val (.int p3), .val (.int p4), .val (.int p5), .val (.int p6), .val (.double (FP.i2d p3)), .second, .val (.double (FP.i2d p4)), .second, .val (.double (FP.i2d p5)), .second, .val (.double (FP.i2d p6)), .second, .val (.int (3 : Int32)), .val (.ref b109), .val (.ref b_115), .unset] [(.int (2 : Int32)), (.ref b_115)])) rfl rfl (hb hby at_144) _ ?_
          show Steps p.tables e below (T115.setTop (mkF m 145 #[.val (.int p1), .val (.int p2), .val (.int p3), .val (.int p4), .val (.int p5), .val (.int p6), .val (.double (FP.i2d p3)), .second, .val (.double (FP.i2d p4)), .second, .val (.double (FP.i2d p5)), .second, .val (.double (FP.i2d p6)), .second, .val (.int (3 : Int32)), .val (.ref b109), .val (.ref b_115), .unset] [(.double (FP.i2d p3))])) _
          refine XS.dload X115.here hx rfl (hb hby at_145) rfl ?_
          show Steps p.tables e below (T115.setTop (mkF m 147 #[.val (.int p1), .val (.int p2), .val (.int p3), .val (.int p4), .val (.int p5), .val (.int p6), .val (.double (FP.i2d p3)), .second, .val (.double (FP.i2d p4)), .second, .val (.double (FP.i2d p5)), .second, .val (.double (FP.i2d p6)), .second, .val (.int (3 : Int32)), .val (.ref b109), .val (.ref b_115), .unset] [(.double (FP.i2d p3)), (.double (FP.i2d p3))])) _
          refine XS.dcmpS X115.here hx rfl (hb hby at_147) rfl (v := (0 : Int32)) (dcmpV_self (Fl.i2d_fin _).noNaN .l) ?_
          show Steps p.tables e below (T115.setTop (mkF m 148 #[.val (.int p1), .val (.int p2), .val (.int p3), .val (.int p4), .val (.int p5), .val (.int p6), .val (.double (FP.i2d p3)), .second, .val (.double (FP.i2d p4)), .second, .val (.double (FP.i2d p5)), .second, .val (.double (FP.i2d p6)), .second, .val (.int (3 : Int32)), .val (.ref b109), .val (.ref b_115), .unset] [(.int (0 : Int32))])) _
          refine XS.ifYes X115.here hx rfl (pc0 := 148) (pc' := 153) rfl (hb hby at_148) rfl ((if0 _ _).trans (teq ((by decide) : (0 : Int32) = (0 : Int32))).1) (by decide) (by decide) ?_
          show Steps p.tables e below (T115.setTop (mkF m 153 #[.val (.int p1), .val (.int p2), .val (.int p3), .val (.int p4), .val (.int p5), .val (.int p6), .val (.double (FP.i2d p3)), .second, .val (.double (FP.i2d p4)), .second, .val (.double (FP.i2d p5)), .second, .val (.double (FP.i2d p6)), .second, .val (.int (3 : Int32)), .val (.ref b109), .val (.ref b_115), .unset] [])) _
          refine XS.iload X115.here hx rfl (hb hby at_153) rfl ?_
          show Steps p.tables e below (T115.setTop (mkF m 155 #[.val (.int p1), .val (.int p2), .val (.int p3), .val (.int p4), .val (.int p5), .val (.int p6), .val (.double (FP.i2d p3)), .second, .val (.double (FP.i2d p4)), .second, .val (.double (FP.i2d p5)), .second, .val (.double (FP.i2d p6)), .second, .val (.int (3 : Int32)), .val (.ref b109), .val (.ref b_115), .unset] [(.int (3 : Int32))])) _
          refine XS.iconst X115.here hx rfl (hb hby at_155) ?_
          show Steps p.tables e below (T115.setTop (mkF m 156 #[.val (.int p1), .val (.int p2), .val (.int p3), .val (.int p4), .val (.int p5), .val (.int p6), .val (.double (FP.i2d p3)), .second, .val (.double (FP.i2d p4)), .second, .val (.double (FP.i2d p5)), .second, .val (.double (FP.i2d p6)), .second, .val (.int (3 : Int32)), .val (.ref b109), .val (.ref b_115), .unset] [(.int (3 : Int32)), (.int (3 : Int32))])) _
          refine XS.icmpYes X115.here hx rfl (pc0 := 156) (pc' := 171) rfl (hb hby at_156) rfl (flt ((by decide) : ¬ ((3 : Int32) < (3 : Int32)))).2.2.2 (by decide) (by decide) ?_
          show Steps p.tables e below (T115.setTop (mkF m 171 #[.val (.int p1), .val (.int p2), .val (.int p3), .val (.int p4), .val (.int p5), .val (.int p6), .val (.double (FP.i2d p3)), .second, .val (.double (FP.i2d p4)), .second, .val (.double (FP.i2d p5)), .second, .val (.double (FP.i2d p6)), .second, .val (.int (3 : Int32)), .val (.ref b109), .val (.ref b_115), .unset] [])) _
          refine XS.iconst X115.here hx rfl (hb hby at_171) ?_
          exact kt)
      obtain ⟨fs, hr, hrun, hended, hW, hsame⟩ := X115.leave (v := some (.int (1 : Int32))) (fun h => by rw [Bd.returns] at h; cases h)
      refine ⟨_, _, pre133 _ ?_, hrun, hended, _, _, rfl, ?_, ⟨_, rfl⟩, hW, hsame.mono (by decide) (by decide)⟩
      · show Steps p.tables e below (T115.setTop (mkF m 172 #[.val (.int p1), .val (.int p2), .val (.int p3), .val (.int p4), .val (.int p5), .val (.int p6), .val (.double (FP.i2d p3)), .second, .val (.double (FP.i2d p4)), .second, .val (.double (FP.i2d p5)), .second, .val (.double (FP.i2d p6)), .second, .val (.int (3 : Int32)), .val (.ref b109), .val (.ref b_115), .unset] [(.int (1 : Int32))])) _
        exact retN X115 hx (t := .boolean) Bd.returns (by simp) (hb hby at_172) hr
      · show Q0 Z p1 p2 p3 p4 p5 p6 h0 n0 _ T115.heap _
        exact ⟨rfl, N115⟩
    · skip
      obtain ⟨T134, h134, k134, X134, e134, E134, A134, st134⟩ := newP X0 hx hZ (hw _ (List.mem_of_getElem? (i := 4) rfl)) e0 (g := (mkF m 33 #[.val (.int p1), .val (.int p2), .val (.int p3), .val (.int p4), .val (.int p5), .val (.int p6), .val (.double (FP.i2d p3)), .second, .val (.double (FP.i2d p4)), .second, .val (.double (FP.i2d p5)), .second, .val (.double (FP.i2d p6)), .second, .val (.int (4 : Int32)), .unset, .unset, .unset] [(.int (1 : Int32))])) rfl (hb hby at_33) rfl (by decide) (cap := 1) (by decide) (by decide) (by decide) (by decide)
      obtain ⟨b134, g134⟩ : ∃ z, z = h0.size := ⟨_, rfl⟩
      rw [← g134] at A134 st134
      have g_b134 : n0 ≤ b134 := Nat.le_trans Z0 (Nat.le_of_eq g134.symm)
      have z135 : n0 ≤ h134.size := Nat.le_trans Z0 E134.1
      have V134 : Arv Z h134 b134 k134 .double (1 : Int32) [(.double (0 : UInt64))] (.double (0 : UInt64)) := (Arv.new A134 (by decide)).pad (pad_rep [] (.double (0 : UInt64)) 1)
      obtain ⟨cl136, Ar136, Q136, S136, M136, H136, G136⟩ := id V134
      have in137 : ¬ ((0 : Int32) < 0 ∨ cl136.slots.size ≤ ((0 : Int32)).toNatClampNeg) := inb_of S136 ⟨by decide, by decide⟩
      obtain ⟨T138, h138, X138, e138, W138, st138⟩ := stD X134 hx hZ e134 Ar136 (j := (0 : Int32)) in137 (g := (mkF m 39 #[.val (.int p1), .val (.int p2), .val (.int p3), .val (.int p4), .val (.int p5), .val (.int p6), .val (.double (FP.i2d p3)), .second, .val (.double (FP.i2d p4)), .second, .val (.double (FP.i2d p5)), .second, .val (.double (FP.i2d p6)), .second, .val (.int (4 : Int32)), .unset, .unset, .unset] [(.double (FP.i2d p3)), (.int (0 : Int32)), (.ref b134), (.ref b134)])) rfl rfl (hb hby at_39)
      have z139 : n0 ≤ h138.size := Nat.le_trans z135 (Keep.of_wr W138).1
      have V138 : Arv Z h138 b134 k134 .double (1 : Int32) [(.double (FP.i2d p3))] (.double (0 : UInt64)) := Arv.set Ar136 Q136 S136 M136 H136 G136 rfl W138 0 rfl (Nat.le_of_ble_eq_true rfl)
      have N138 : Fr n0 _ := Fr.snoc X138 N0 g_b134
      obtain ⟨_, _, ⟨T140, L140, kk140, nn140⟩, -, X140, ⟨Lc140, hQ140, l140, y140, z140⟩, st140⟩ := Jvm.LawKit.callS X138 hx (y := (⟨"com/example/manyfront/manyfront/cli/ReferencePoint", "fit", "([DI)[D"⟩ : MethodName)) hown (mvT hZ (hw _ (List.mem_of_getElem? (i := 5) rfl))) (mvT hZ (hw _ (List.mem_of_getElem? (i := 6) rfl))) (mvT hZ (hw _ (List.mem_of_getElem? (i := 7) rfl))) (mvT hZ (hw _ (List.mem_of_getElem? (i := 8) rfl))) (by decide) (backOf (W := 0) (rmfitN4 l Z a0 hw [] b134 (FP.i2d p3) k134 h138 n0 z139 V138) hZ (hw _ (List.mem_of_getElem? (i := 8) rfl)) (hw _ (List.mem_of_getElem? (i := 7) rfl)) (by decide) (by decide)) (g := (mkF m 46 #[.val (.int p1), .val (.int p2), .val (.int p3), .val (.int p4), .val (.int p5), .val (.int p6), .val (.double (FP.i2d p3)), .second, .val (.double (FP.i2d p4)), .second, .val (.double (FP.i2d p5)), .second, .val (.double (FP.i2d p6)), .second, .val (.int (4 : Int32)), .val (.ref b134), .unset, .unset] [(.int (4 : Int32)), (.ref b134)])) rfl (by rw [hml]; rfl) (argsL := [(.ref b134), (.int (4 : Int32))]) (rest := []) (lenOf pd__28_5bDI_29_5bD rfl) rfl (by show 2 * 0 + _ ≤ _; exact Nat.le_of_eq rfl) (hb hby at_46) (fun _ _ => ⟨rfl, e138, (by decide : 1 + 1 ≤ _), (by decide : 1 + 4 ≤ _)⟩)
      dsimp only [Pt.U, Pt.locs, Pt.cells, Pt.slots] at X140 l140 y140 z140 st140 hQ140
      subst l140 y140 z140
      obtain ⟨b_140, kb_140, rfl, N140q, K140, x140_0, x140_1⟩ := hQ140
      have N140 := Fr.app N138 N140q
      have ne141 : b134 ≠ b_140 := Nat.ne_of_lt (Nat.lt_of_lt_of_le V138.lt x140_0)
      have g_b_140 : n0 ≤ b_140 := Nat.le_trans z139 x140_0
      have z142 : n0 ≤ T140.heap.size := Nat.le_trans z139 K140.1
      obtain ⟨cl143, Ar143, Q143, S143, M143, H143, G143⟩ := id x140_1
      have f144 : Arv Z T140.heap b134 k134 .double (1 : Int32) [(.double (FP.i2d p3))] (.double (0 : UInt64)) := (V138.keep K140 own_nm0)
      obtain ⟨cl145, Ar145, Q145, S145, M145, H145, G145⟩ := id f144
      obtain ⟨cl146, Ar146, Q146, S146, M146, H146, G146⟩ := id f144
      have in147 : ¬ ((0 : Int32) < 0 ∨ cl146.slots.size ≤ ((0 : Int32)).toNatClampNeg) := inb_of S146 ⟨by decide, by decide⟩
      have at148 : cl146.slots[((0 : Int32)).toNatClampNeg]? = some (.double (FP.i2d p3)) := H146 0 (by rw [S146]; decide)
      obtain ⟨cl149, Ar149, Q149, S149, M149, H149, G149⟩ := id x140_1
      have in150 : ¬ ((0 : Int32) < 0 ∨ cl149.slots.size ≤ ((0 : Int32)).toNatClampNeg) := inb_of S149 ⟨by decide, by decide⟩
      have at151 : cl149.slots[((0 : Int32)).toNatClampNeg]? = some (.double (FP.i2d p3)) := H149 0 (by rw [S149]; decide)
      obtain ⟨cl152, Ar152, Q152, S152, M152, H152, G152⟩ := id x140_1
      have in153 : ¬ ((1 : Int32) < 0 ∨ cl152.slots.size ≤ ((1 : Int32)).toNatClampNeg) := inb_of S152 ⟨by decide, by decide⟩
      have at154 : cl152.slots[((1 : Int32)).toNatClampNeg]? = some (.double (FP.i2d p3)) := H152 1 (by rw [S152]; decide)
      obtain ⟨cl155, Ar155, Q155, S155, M155, H155, G155⟩ := id x140_1
      have in156 : ¬ ((2 : Int32) < 0 ∨ cl155.slots.size ≤ ((2 : Int32)).toNatClampNeg) := inb_of S155 ⟨by decide, by decide⟩
      have at157 : cl155.slots[((2 : Int32)).toNatClampNeg]? = some (.double (FP.i2d p3)) := H155 2 (by rw [S155]; decide)
      obtain ⟨cl158, Ar158, Q158, S158, M158, H158, G158⟩ := id x140_1
      have in159 : ¬ ((3 : Int32) < 0 ∨ cl158.slots.size ≤ ((3 : Int32)).toNatClampNeg) := inb_of S158 ⟨by decide, by decide⟩
      have at160 : cl158.slots[((3 : Int32)).toNatClampNeg]? = some (.double (FP.i2d p3)) := H158 3 (by rw [S158]; decide)
      have pre161 : ∀ t, Steps p.tables e below (T140.setTop (mkF m 172 #[.val (.int p1), .val (.int p2), .val (.int p3), .val (.int p4), .val (.int p5), .val (.int p6), .val (.double (FP.i2d p3)), .second, .val (.double (FP.i2d p4)), .second, .val (.double (FP.i2d p5)), .second, .val (.double (FP.i2d p6)), .second, .val (.int (4 : Int32)), .val (.ref b134), .val (.ref b_140), .unset] [(.int (1 : Int32))])) t → Steps p.tables e below (s₁.setTop (entryFrame m #[(.int p1), (.int p2), (.int p3), (.int p4), (.int p5), (.int p6)] maxLocals)) t := fun t kt => pre51 t (by
          show Steps p.tables e below (s₁.setTop (mkF m 24 #[.val (.int p1), .val (.int p2), .val (.int p3), .val (.int p4), .val (.int p5), .val (.int p6), .val (.double (FP.i2d p3)), .second, .val (.double (FP.i2d p4)), .second, .val (.double (FP.i2d p5)), .second, .val (.double (FP.i2d p6)), .second, .unset, .unset, .unset, .unset] [])) _
          refine XS.iloadN X0.here hx rfl (hb hby at_24) rfl ?_
          show Steps p.tables e below (s₁.setTop (mkF m 25 #[.val (.int p1), .val (.int p2), .val (.int p3), .val (.int p4), .val (.int p5), .val (.int p6), .val (.double (FP.i2d p3)), .second, .val (.double (FP.i2d p4)), .second, .val (.double (FP.i2d p5)), .second, .val (.double (FP.i2d p6)), .second, .unset, .unset, .unset, .unset] [(.int p2)])) _
          refine X0.ldcInt hx hown (mvT hZ (hw _ (List.mem_of_getElem? (i := 9) rfl))) (g := (mkF m 25 #[.val (.int p1), .val (.int p2), .val (.int p3), .val (.int p4), .val (.int p5), .val (.int p6), .val (.double (FP.i2d p3)), .second, .val (.double (FP.i2d p4)), .second, .val (.double (FP.i2d p5)), .second, .val (.double (FP.i2d p6)), .second, .unset, .unset, .unset, .unset] [(.int p2)])) rfl (hb hby at_25) _ ?_
          show Steps p.tables e below (s₁.setTop (mkF m 27 #[.val (.int p1), .val (.int p2), .val (.int p3), .val (.int p4), .val (.int p5), .val (.int p6), .val (.double (FP.i2d p3)), .second, .val (.double (FP.i2d p4)), .second, .val (.double (FP.i2d p5)), .second, .val (.double (FP.i2d p6)), .second, .unset, .unset, .unset, .unset] [(.int (2147483647 : Int32)), (.int p2)])) _
          refine XS.iand X0.here hx rfl (hb hby at_27) rfl ?_
          show Steps p.tables e below (s₁.setTop (mkF m 28 #[.val (.int p1), .val (.int p2), .val (.int p3), .val (.int p4), .val (.int p5), .val (.int p6), .val (.double (FP.i2d p3)), .second, .val (.double (FP.i2d p4)), .second, .val (.double (FP.i2d p5)), .second, .val (.double (FP.i2d p6)), .second, .unset, .unset, .unset, .unset] [(.int (p2 &&& (2147483647 : Int32)))])) _
          refine XS.iconst X0.here hx rfl (hb hby at_28) ?_
          show Steps p.tables e below (s₁.setTop (mkF m 29 #[.val (.int p1), .val (.int p2), .val (.int p3), .val (.int p4), .val (.int p5), .val (.int p6), .val (.double (FP.i2d p3)), .second, .val (.double (FP.i2d p4)), .second, .val (.double (FP.i2d p5)), .second, .val (.double (FP.i2d p6)), .second, .unset, .unset, .unset, .unset] [(.int (5 : Int32)), (.int (p2 &&& (2147483647 : Int32)))])) _
          refine iremM X0 hx rfl (hb hby at_29) rfl (by decide) ?_
          show Steps p.tables e below (s₁.setTop (mkF m 30 #[.val (.int p1), .val (.int p2), .val (.int p3), .val (.int p4), .val (.int p5), .val (.int p6), .val (.double (FP.i2d p3)), .second, .val (.double (FP.i2d p4)), .second, .val (.double (FP.i2d p5)), .second, .val (.double (FP.i2d p6)), .second, .unset, .unset, .unset, .unset] [(.int ((p2 &&& (2147483647 : Int32)) % (5 : Int32)))])) _
          rw [hk]
          show Steps p.tables e below (s₁.setTop (mkF m 30 #[.val (.int p1), .val (.int p2), .val (.int p3), .val (.int p4), .val (.int p5), .val (.int p6), .val (.double (FP.i2d p3)), .second, .val (.double (FP.i2d p4)), .second, .val (.double (FP.i2d p5)), .second, .val (.double (FP.i2d p6)), .second, .unset, .unset, .unset, .unset] [(.int (4 : Int32))])) _
          refine XS.istore X0.here hx rfl (hb hby at_30) rfl (l' := #[.val (.int p1), .val (.int p2), .val (.int p3), .val (.int p4), .val (.int p5), .val (.int p6), .val (.double (FP.i2d p3)), .second, .val (.double (FP.i2d p4)), .second, .val (.double (FP.i2d p5)), .second, .val (.double (FP.i2d p6)), .second, .val (.int (4 : Int32)), .unset, .unset, .unset]) rfl ?_
          show Steps p.tables e below (s₁.setTop (mkF m 32 #[.val (.int p1), .val (.int p2), .val (.int p3), .val (.int p4), .val (.int p5), .val (.int p6), .val (.double (FP.i2d p3)), .second, .val (.double (FP.i2d p4)), .second, .val (.double (FP.i2d p5)), .second, .val (.double (FP.i2d p6)), .second, .val (.int (4 : Int32)), .unset, .unset, .unset] [])) _
          refine XS.iconst X0.here hx rfl (hb hby at_32) ?_
          show Steps p.tables e below (s₁.setTop (mkF m 33 #[.val (.int p1), .val (.int p2), .val (.int p3), .val (.int p4), .val (.int p5), .val (.int p6), .val (.double (FP.i2d p3)), .second, .val (.double (FP.i2d p4)), .second, .val (.double (FP.i2d p5)), .second, .val (.double (FP.i2d p6)), .second, .val (.int (4 : Int32)), .unset, .unset, .unset] [(.int (1 : Int32))])) _
          refine st134 _ ?_
          show Steps p.tables e below (T134.setTop (mkF m 35 #[.val (.int p1), .val (.int p2), .val (.int p3), .val (.int p4), .val (.int p5), .val (.int p6), .val (.double (FP.i2d p3)), .second, .val (.double (FP.i2d p4)), .second, .val (.double (FP.i2d p5)), .second, .val (.double (FP.i2d p6)), .second, .val (.int (4 : Int32)), .unset, .unset, .unset] [(.ref b134)])) _
          refine XS.dup X134.here hx rfl (hb hby at_35) rfl rfl ?_
          show Steps p.tables e below (T134.setTop (mkF m 36 #[.val (.int p1), .val (.int p2), .val (.int p3), .val (.int p4), .val (.int p5), .val (.int p6), .val (.double (FP.i2d p3)), .second, .val (.double (FP.i2d p4)), .second, .val (.double (FP.i2d p5)), .second, .val (.double (FP.i2d p6)), .second, .val (.int (4 : Int32)), .unset, .unset, .unset] [(.ref b134), (.ref b134)])) _
          refine XS.iconst X134.here hx rfl (hb hby at_36) ?_
          show Steps p.tables e below (T134.setTop (mkF m 37 #[.val (.int p1), .val (.int p2), .val (.int p3), .val (.int p4), .val (.int p5), .val (.int p6), .val (.double (FP.i2d p3)), .second, .val (.double (FP.i2d p4)), .second, .val (.double (FP.i2d p5)), .second, .val (.double (FP.i2d p6)), .second, .val (.int (4 : Int32)), .unset, .unset, .unset] [(.int (0 : Int32)), (.ref b134), (.ref b134)])) _
          refine XS.dload X134.here hx rfl (hb hby at_37) rfl ?_
          show Steps p.tables e below (T134.setTop (mkF m 39 #[.val (.int p1), .val (.int p2), .val (.int p3), .val (.int p4), .val (.int p5), .val (.int p6), .val (.double (FP.i2d p3)), .second, .val (.double (FP.i2d p4)), .second, .val (.double (FP.i2d p5)), .second, .val (.double (FP.i2d p6)), .second, .val (.int (4 : Int32)), .unset, .unset, .unset] [(.double (FP.i2d p3)), (.int (0 : Int32)), (.ref b134), (.ref b134)])) _
          refine st138 _ ?_
          show Steps p.tables e below (T138.setTop (mkF m 40 #[.val (.int p1), .val (.int p2), .val (.int p3), .val (.int p4), .val (.int p5), .val (.int p6), .val (.double (FP.i2d p3)), .second, .val (.double (FP.i2d p4)), .second, .val (.double (FP.i2d p5)), .second, .val (.double (FP.i2d p6)), .second, .val (.int (4 : Int32)), .unset, .unset, .unset] [(.ref b134)])) _
          refine XS.astore X138.here hx rfl (hb hby at_40) rfl rfl (l' := #[.val (.int p1), .val (.int p2), .val (.int p3), .val (.int p4), .val (.int p5), .val (.int p6), .val (.double (FP.i2d p3)), .second, .val (.double (FP.i2d p4)), .second, .val (.double (FP.i2d p5)), .second, .val (.double (FP.i2d p6)), .second, .val (.int (4 : Int32)), .val (.ref b134), .unset, .unset]) rfl ?_
          show Steps p.tables e below (T138.setTop (mkF m 42 #[.val (.int p1), .val (.int p2), .val (.int p3), .val (.int p4), .val (.int p5), .val (.int p6), .val (.double (FP.i2d p3)), .second, .val (.double (FP.i2d p4)), .second, .val (.double (FP.i2d p5)), .second, .val (.double (FP.i2d p6)), .second, .val (.int (4 : Int32)), .val (.ref b134), .unset, .unset] [])) _
          refine XS.aload X138.here hx rfl (hb hby at_42) rfl rfl ?_
          show Steps p.tables e below (T138.setTop (mkF m 44 #[.val (.int p1), .val (.int p2), .val (.int p3), .val (.int p4), .val (.int p5), .val (.int p6), .val (.double (FP.i2d p3)), .second, .val (.double (FP.i2d p4)), .second, .val (.double (FP.i2d p5)), .second, .val (.double (FP.i2d p6)), .second, .val (.int (4 : Int32)), .val (.ref b134), .unset, .unset] [(.ref b134)])) _
          refine XS.iload X138.here hx rfl (hb hby at_44) rfl ?_
          show Steps p.tables e below (T138.setTop (mkF m 46 #[.val (.int p1), .val (.int p2), .val (.int p3), .val (.int p4), .val (.int p5), .val (.int p6), .val (.double (FP.i2d p3)), .second, .val (.double (FP.i2d p4)), .second, .val (.double (FP.i2d p5)), .second, .val (.double (FP.i2d p6)), .second, .val (.int (4 : Int32)), .val (.ref b134), .unset, .unset] [(.int (4 : Int32)), (.ref b134)])) _
          refine st140 _ ?_
          show Steps p.tables e below (T140.setTop (mkF m 49 #[.val (.int p1), .val (.int p2), .val (.int p3), .val (.int p4), .val (.int p5), .val (.int p6), .val (.double (FP.i2d p3)), .second, .val (.double (FP.i2d p4)), .second, .val (.double (FP.i2d p5)), .second, .val (.double (FP.i2d p6)), .second, .val (.int (4 : Int32)), .val (.ref b134), .unset, .unset] [(.ref b_140)])) _
          refine XS.astore X140.here hx rfl (hb hby at_49) rfl rfl (l' := #[.val (.int p1), .val (.int p2), .val (.int p3), .val (.int p4), .val (.int p5), .val (.int p6), .val (.double (FP.i2d p3)), .second, .val (.double (FP.i2d p4)), .second, .val (.double (FP.i2d p5)), .second, .val (.double (FP.i2d p6)), .second, .val (.int (4 : Int32)), .val (.ref b134), .val (.ref b_140), .unset]) rfl ?_
          show Steps p.tables e below (T140.setTop (mkF m 51 #[.val (.int p1), .val (.int p2), .val (.int p3), .val (.int p4), .val (.int p5), .val (.int p6), .val (.double (FP.i2d p3)), .second, .val (.double (FP.i2d p4)), .second, .val (.double (FP.i2d p5)), .second, .val (.double (FP.i2d p6)), .second, .val (.int (4 : Int32)), .val (.ref b134), .val (.ref b_140), .unset] [])) _
          refine XS.aload X140.here hx rfl (hb hby at_51) rfl rfl ?_
          show Steps p.tables e below (T140.setTop (mkF m 53 #[.val (.int p1), .val (.int p2), .val (.int p3), .val (.int p4), .val (.int p5), .val (.int p6), .val (.double (FP.i2d p3)), .second, .val (.double (FP.i2d p4)), .second, .val (.double (FP.i2d p5)), .second, .val (.double (FP.i2d p6)), .second, .val (.int (4 : Int32)), .val (.ref b134), .val (.ref b_140), .unset] [(.ref b_140)])) _
          refine XS.ifnullNo X140.here hx rfl (hb hby at_53) rfl ?_
          show Steps p.tables e below (T140.setTop (mkF m 56 #[.val (.int p1), .val (.int p2), .val (.int p3), .val (.int p4), .val (.int p5), .val (.int p6), .val (.double (FP.i2d p3)), .second, .val (.double (FP.i2d p4)), .second, .val (.double (FP.i2d p5)), .second, .val (.double (FP.i2d p6)), .second, .val (.int (4 : Int32)), .val (.ref b134), .val (.ref b_140), .unset] [])) _
          refine XS.aload X140.here hx rfl (hb hby at_56) rfl rfl ?_
          show Steps p.tables e below (T140.setTop (mkF m 58 #[.val (.int p1), .val (.int p2), .val (.int p3), .val (.int p4), .val (.int p5), .val (.int p6), .val (.double (FP.i2d p3)), .second, .val (.double (FP.i2d p4)), .second, .val (.double (FP.i2d p5)), .second, .val (.double (FP.i2d p6)), .second, .val (.int (4 : Int32)), .val (.ref b134), .val (.ref b_140), .unset] [(.ref b_140)])) _
          refine X140.arraylength hx (cell := cl143) Ar143.1 (State.isArrayOf_alike hZ.alike Ar143.2.1) (g := (mkF m 58 #[.val (.int p1), .val (.int p2), .val (.int p3), .val (.int p4), .val (.int p5), .val (.int p6), .val (.double (FP.i2d p3)), .second, .val (.double (FP.i2d p4)), .second, .val (.double (FP.i2d p5)), .second, .val (.double (FP.i2d p6)), .second, .val (.int (4 : Int32)), .val (.ref b134), .val (.ref b_140), .unset] [(.ref b_140)])) rfl rfl (hb hby at_58) _ ?_
          rw [len_of S143 M143]
          show Steps p.tables e below (T140.setTop (mkF m 59 #[.val (.int p1), .val (.int p2), .val (.int p3), .val (.int p4), .val (.int p5), .val (.int p6), .val (.double (FP.i2d p3)), .second, .val (.double (FP.i2d p4)), .second, .val (.double (FP.i2d p5)), .second, .val (.double (FP.i2d p6)), .second, .val (.int (4 : Int32)), .val (.ref b134), .val (.ref b_140), .unset] [(.int (4 : Int32))])) _
          refine XS.iload X140.here hx rfl (hb hby at_59) rfl ?_
          show Steps p.tables e below (T140.setTop (mkF m 61 #[.val (.int p1), .val (.int p2), .val (.int p3), .val (.int p4), .val (.int p5), .val (.int p6), .val (.double (FP.i2d p3)), .second, .val (.double (FP.i2d p4)), .second, .val (.double (FP.i2d p5)), .second, .val (.double (FP.i2d p6)), .second, .val (.int (4 : Int32)), .val (.ref b134), .val (.ref b_140), .unset] [(.int (4 : Int32)), (.int (4 : Int32))])) _
          refine XS.icmpYes X140.here hx rfl (pc0 := 61) (pc' := 66) rfl (hb hby at_61) rfl (teq ((by decide) : (4 : Int32) = (4 : Int32))).1 (by decide) (by decide) ?_
          show Steps p.tables e below (T140.setTop (mkF m 66 #[.val (.int p1), .val (.int p2), .val (.int p3), .val (.int p4), .val (.int p5), .val (.int p6), .val (.double (FP.i2d p3)), .second, .val (.double (FP.i2d p4)), .second, .val (.double (FP.i2d p5)), .second, .val (.double (FP.i2d p6)), .second, .val (.int (4 : Int32)), .val (.ref b134), .val (.ref b_140), .unset] [])) _
          refine XS.iload X140.here hx rfl (hb hby at_66) rfl ?_
          show Steps p.tables e below (T140.setTop (mkF m 68 #[.val (.int p1), .val (.int p2), .val (.int p3), .val (.int p4), .val (.int p5), .val (.int p6), .val (.double (FP.i2d p3)), .second, .val (.double (FP.i2d p4)), .second, .val (.double (FP.i2d p5)), .second, .val (.double (FP.i2d p6)), .second, .val (.int (4 : Int32)), .val (.ref b134), .val (.ref b_140), .unset] [(.int (4 : Int32))])) _
          refine XS.iconst X140.here hx rfl (hb hby at_68) ?_
          show Steps p.tables e below (T140.setTop (mkF m 69 #[.val (.int p1), .val (.int p2), .val (.int p3), .val (.int p4), .val (.int p5), .val (.int p6), .val (.double (FP.i2d p3)), .second, .val (.double (FP.i2d p4)), .second, .val (.double (FP.i2d p5)), .second, .val (.double (FP.i2d p6)), .second, .val (.int (4 : Int32)), .val (.ref b134), .val (.ref b_140), .unset] [(.int (1 : Int32)), (.int (4 : Int32))])) _
          refine XS.icmpNo X140.here hx rfl (hb hby at_69) rfl (feq ((by decide) : ¬ ((4 : Int32) = (1 : Int32)))).1 ?_
          show Steps p.tables e below (T140.setTop (mkF m 72 #[.val (.int p1), .val (.int p2), .val (.int p3), .val (.int p4), .val (.int p5), .val (.int p6), .val (.double (FP.i2d p3)), .second, .val (.double (FP.i2d p4)), .second, .val (.double (FP.i2d p5)), .second, .val (.double (FP.i2d p6)), .second, .val (.int (4 : Int32)), .val (.ref b134), .val (.ref b_140), .unset] [])) _
          refine XS.aload X140.here hx rfl (hb hby at_72) rfl rfl ?_
          show Steps p.tables e below (T140.setTop (mkF m 74 #[.val (.int p1), .val (.int p2), .val (.int p3), .val (.int p4), .val (.int p5), .val (.int p6), .val (.double (FP.i2d p3)), .second, .val (.double (FP.i2d p4)), .second, .val (.double (FP.i2d p5)), .second, .val (.double (FP.i2d p6)), .second, .val (.int (4 : Int32)), .val (.ref b134), .val (.ref b_140), .unset] [(.ref b_140)])) _
          refine XS.aload X140.here hx rfl (hb hby at_74) rfl rfl ?_
          show Steps p.tables e below (T140.setTop (mkF m 76 #[.val (.int p1), .val (.int p2), .val (.int p3), .val (.int p4), .val (.int p5), .val (.int p6), .val (.double (FP.i2d p3)), .second, .val (.double (FP.i2d p4)), .second, .val (.double (FP.i2d p5)), .second, .val (.double (FP.i2d p6)), .second, .val (.int (4 : Int32)), .val (.ref b134), .val (.ref b_140), .unset] [(.ref b134), (.ref b_140)])) _
          refine Jvm.RoadKit.acmp (g := (mkF m 76 #[.val (.int p1), .val (.int p2), .val (.int p3), .val (.int p4), .val (.int p5), .val (.int p6), .val (.double (FP.i2d p3)), .second, .val (.double (FP.i2d p4)), .second, .val (.double (FP.i2d p5)), .second, .val (.double (FP.i2d p6)), .second, .val (.int (4 : Int32)), .val (.ref b134), .val (.ref b_140), .unset] [(.ref b134), (.ref b_140)])) X140 hx rfl rfl rfl (pc0 := 76) (pc' := 81) (same := false) rfl (hb hby at_76) rfl (decide_eq_false fun q => (Ne.symm ne141) (Value.ref.inj q)) (by decide) (by decide) ?_
          show Steps p.tables e below (T140.setTop (mkF m 81 #[.val (.int p1), .val (.int p2), .val (.int p3), .val (.int p4), .val (.int p5), .val (.int p6), .val (.double (FP.i2d p3)), .second, .val (.double (FP.i2d p4)), .second, .val (.double (FP.i2d p5)), .second, .val (.double (FP.i2d p6)), .second, .val (.int (4 : Int32)), .val (.ref b134), .val (.ref b_140), .unset] [])) _
          refine XS.aload X140.here hx rfl (hb hby at_81) rfl rfl ?_
          show Steps p.tables e below (T140.setTop (mkF m 83 #[.val (.int p1), .val (.int p2), .val (.int p3), .val (.int p4), .val (.int p5), .val (.int p6), .val (.double (FP.i2d p3)), .second, .val (.double (FP.i2d p4)), .second, .val (.double (FP.i2d p5)), .second, .val (.double (FP.i2d p6)), .second, .val (.int (4 : Int32)), .val (.ref b134), .val (.ref b_140), .unset] [(.ref b134)])) _
          refine X140.arraylength hx (cell := cl145) Ar145.1 (State.isArrayOf_alike hZ.alike Ar145.2.1) (g := (mkF m 83 #[.val (.int p1), .val (.int p2), .val (.int p3), .val (.int p4), .val (.int p5), .val (.int p6), .val (.double (FP.i2d p3)), .second, .val (.double (FP.i2d p4)), .second, .val (.double (FP.i2d p5)), .second, .val (.double (FP.i2d p6)), .second, .val (.int (4 : Int32)), .val (.ref b134), .val (.ref b_140), .unset] [(.ref b134)])) rfl rfl (hb hby at_83) _ ?_
          rw [len_of S145 M145]
          show Steps p.tables e below (T140.setTop (mkF m 84 #[.val (.int p1), .val (.int p2), .val (.int p3), .val (.int p4), .val (.int p5), .val (.int p6), .val (.double (FP.i2d p3)), .second, .val (.double (FP.i2d p4)), .second, .val (.double (FP.i2d p5)), .second, .val (.double (FP.i2d p6)), .second, .val (.int (4 : Int32)), .val (.ref b134), .val (.ref b_140), .unset] [(.int (1 : Int32))])) _
          refine XS.iconst X140.here hx rfl (hb hby at_84) ?_
          show Steps p.tables e below (T140.setTop (mkF m 85 #[.val (.int p1), .val (.int p2), .val (.int p3), .val (.int p4), .val (.int p5), .val (.int p6), .val (.double (FP.i2d p3)), .second, .val (.double (FP.i2d p4)), .second, .val (.double (FP.i2d p5)), .second, .val (.double (FP.i2d p6)), .second, .val (.int (4 : Int32)), .val (.ref b134), .val (.ref b_140), .unset] [(.int (1 : Int32)), (.int (1 : Int32))])) _
          refine XS.icmpNo X140.here hx rfl (hb hby at_85) rfl (teq ((by decide) : (1 : Int32) = (1 : Int32))).2 ?_
          show Steps p.tables e below (T140.setTop (mkF m 88 #[.val (.int p1), .val (.int p2), .val (.int p3), .val (.int p4), .val (.int p5), .val (.int p6), .val (.double (FP.i2d p3)), .second, .val (.double (FP.i2d p4)), .second, .val (.double (FP.i2d p5)), .second, .val (.double (FP.i2d p6)), .second, .val (.int (4 : Int32)), .val (.ref b134), .val (.ref b_140), .unset] [])) _
          refine XS.aload X140.here hx rfl (hb hby at_88) rfl rfl ?_
          show Steps p.tables e below (T140.setTop (mkF m 90 #[.val (.int p1), .val (.int p2), .val (.int p3), .val (.int p4), .val (.int p5), .val (.int p6), .val (.double (FP.i2d p3)), .second, .val (.double (FP.i2d p4)), .second, .val (.double (FP.i2d p5)), .second, .val (.double (FP.i2d p6)), .second, .val (.int (4 : Int32)), .val (.ref b134), .val (.ref b_140), .unset] [(.ref b134)])) _
          refine XS.iconst X140.here hx rfl (hb hby at_90) ?_
          show Steps p.tables e below (T140.setTop (mkF m 91 #[.val (.int p1), .val (.int p2), .val (.int p3), .val (.int p4), .val (.int p5), .val (.int p6), .val (.double (FP.i2d p3)), .second, .val (.double (FP.i2d p4)), .second, .val (.double (FP.i2d p5)), .second, .val (.double (FP.i2d p6)), .second, .val (.int (4 : Int32)), .val (.ref b134), .val (.ref b_140), .unset] [(.int (0 : Int32)), (.ref b134)])) _
          refine X140.daload hx (j := (0 : Int32)) (v := (.double (FP.i2d p3))) Ar146.1 (State.isArrayOf_alike hZ.alike Ar146.2.1) Ar146.2.2 in147 at148 (g := (mkF m 91 #[.val (.int p1), .val (.int p2), .val (.int p3), .val (.int p4), .val (.int p5), .val (.int p6), .val (.double (FP.i2d p3)), .second, .val (.double (FP.i2d p4)), .second, .val (.double (FP.i2d p5)), .second, .val (.double (FP.i2d p6)), .second, .val (.int (4 : Int32)), .val (.ref b134), .val (.ref b_140), .unset] [(.int (0 : Int32)), (.ref b134)])) rfl rfl (hb hby at_91) _ ?_
          show Steps p.tables e below (T140.setTop (mkF m 92 #[.val (.int p1), .val (.int p2), .val (.int p3), .val (.int p4), .val (.int p5), .val (.int p6), .val (.double (FP.i2d p3)), .second, .val (.double (FP.i2d p4)), .second, .val (.double (FP.i2d p5)), .second, .val (.double (FP.i2d p6)), .second, .val (.int (4 : Int32)), .val (.ref b134), .val (.ref b_140), .unset] [(.double (FP.i2d p3))])) _
          refine XS.dload X140.here hx rfl (hb hby at_92) rfl ?_
          show Steps p.tables e below (T140.setTop (mkF m 94 #[.val (.int p1), .val (.int p2), .val (.int p3), .val (.int p4), .val (.int p5), .val (.int p6), .val (.double (FP.i2d p3)), .second, .val (.double (FP.i2d p4)), .second, .val (.double (FP.i2d p5)), .second, .val (.double (FP.i2d p6)), .second, .val (.int (4 : Int32)), .val (.ref b134), .val (.ref b_140), .unset] [(.double (FP.i2d p3)), (.double (FP.i2d p3))])) _
          refine XS.dcmpS X140.here hx rfl (hb hby at_94) rfl (v := (0 : Int32)) (dcmpV_self (Fl.i2d_fin _).noNaN .l) ?_
          show Steps p.tables e below (T140.setTop (mkF m 95 #[.val (.int p1), .val (.int p2), .val (.int p3), .val (.int p4), .val (.int p5), .val (.int p6), .val (.double (FP.i2d p3)), .second, .val (.double (FP.i2d p4)), .second, .val (.double (FP.i2d p5)), .second, .val (.double (FP.i2d p6)), .second, .val (.int (4 : Int32)), .val (.ref b134), .val (.ref b_140), .unset] [(.int (0 : Int32))])) _
          refine XS.ifYes X140.here hx rfl (pc0 := 95) (pc' := 100) rfl (hb hby at_95) rfl ((if0 _ _).trans (teq ((by decide) : (0 : Int32) = (0 : Int32))).1) (by decide) (by decide) ?_
          show Steps p.tables e below (T140.setTop (mkF m 100 #[.val (.int p1), .val (.int p2), .val (.int p3), .val (.int p4), .val (.int p5), .val (.int p6), .val (.double (FP.i2d p3)), .second, .val (.double (FP.i2d p4)), .second, .val (.double (FP.i2d p5)), .second, .val (.double (FP.i2d p6)), .second, .val (.int (4 : Int32)), .val (.ref b134), .val (.ref b_140), .unset] [])) _
          refine XS.iload X140.here hx rfl (hb hby at_100) rfl ?_
          show Steps p.tables e below (T140.setTop (mkF m 102 #[.val (.int p1), .val (.int p2), .val (.int p3), .val (.int p4), .val (.int p5), .val (.int p6), .val (.double (FP.i2d p3)), .second, .val (.double (FP.i2d p4)), .second, .val (.double (FP.i2d p5)), .second, .val (.double (FP.i2d p6)), .second, .val (.int (4 : Int32)), .val (.ref b134), .val (.ref b_140), .unset] [(.int (4 : Int32))])) _
          refine XS.ifNo X140.here hx rfl (hb hby at_102) rfl ((if0 _ _).trans (tlt ((by decide) : (0 : Int32) < (4 : Int32))).2.2.2) ?_
          show Steps p.tables e below (T140.setTop (mkF m 105 #[.val (.int p1), .val (.int p2), .val (.int p3), .val (.int p4), .val (.int p5), .val (.int p6), .val (.double (FP.i2d p3)), .second, .val (.double (FP.i2d p4)), .second, .val (.double (FP.i2d p5)), .second, .val (.double (FP.i2d p6)), .second, .val (.int (4 : Int32)), .val (.ref b134), .val (.ref b_140), .unset] [])) _
          refine XS.aload X140.here hx rfl (hb hby at_105) rfl rfl ?_
          show Steps p.tables e below (T140.setTop (mkF m 107 #[.val (.int p1), .val (.int p2), .val (.int p3), .val (.int p4), .val (.int p5), .val (.int p6), .val (.double (FP.i2d p3)), .second, .val (.double (FP.i2d p4)), .second, .val (.double (FP.i2d p5)), .second, .val (.double (FP.i2d p6)), .second, .val (.int (4 : Int32)), .val (.ref b134), .val (.ref b_140), .unset] [(.ref b_140)])) _
          refine XS.iconst X140.here hx rfl (hb hby at_107) ?_
          show Steps p.tables e below (T140.setTop (mkF m 108 #[.val (.int p1), .val (.int p2), .val (.int p3), .val (.int p4), .val (.int p5), .val (.int p6), .val (.double (FP.i2d p3)), .second, .val (.double (FP.i2d p4)), .second, .val (.double (FP.i2d p5)), .second, .val (.double (FP.i2d p6)), .second, .val (.int (4 : Int32)), .val (.ref b134), .val (.ref b_140), .unset] [(.int (0 : Int32)), (.ref b_140)])) _
          refine X140.daload hx (j := (0 : Int32)) (v := (.double (FP.i2d p3))) Ar149.1 (State.isArrayOf_alike hZ.alike Ar149.2.1) Ar149.2.2 in150 at151 (g := (mkF m 108 #[.val (.int p1), .val (.int p2), .val (.int p3), .val (.int p4), .val (.int p5), .val (.int p6), .val (.double (FP.i2d p3)), .second, .val (.double (FP.i2d p4)), .second, .val (.double (FP.i2d p5)), .second, .val (.double (FP.i2d p6)), .second, .val (.int (4 : Int32)), .val (.ref b134), .val (.ref b_140), .unset] [(.int (0 : Int32)), (.ref b_140)])) rfl rfl (hb hby at_108) _ ?_
          show Steps p.tables e below (T140.setTop (mkF m 109 #[.val (.int p1), .val (.int p2), .val (.int p3), .val (.int p4), .val (.int p5), .val (.int p6), .val (.double (FP.i2d p3)), .second, .val (.double (FP.i2d p4)), .second, .val (.double (FP.i2d p5)), .second, .val (.double (FP.i2d p6)), .second, .val (.int (4 : Int32)), .val (.ref b134), .val (.ref b_140), .unset] [(.double (FP.i2d p3))])) _
          refine XS.dload X140.here hx rfl (hb hby at_109) rfl ?_
          show Steps p.tables e below (T140.setTop (mkF m 111 #[.val (.int p1), .val (.int p2), .val (.int p3), .val (.int p4), .val (.int p5), .val (.int p6), .val (.double (FP.i2d p3)), .second, .val (.double (FP.i2d p4)), .second, .val (.double (FP.i2d p5)), .second, .val (.double (FP.i2d p6)), .second, .val (.int (4 : Int32)), .val (.ref b134), .val (.ref b_140), .unset] [(.double (FP.i2d p3)), (.double (FP.i2d p3))])) _
          refine XS.dcmpS X140.here hx rfl (hb hby at_111) rfl (v := (0 : Int32)) (dcmpV_self (Fl.i2d_fin _).noNaN .l) ?_
          show Steps p.tables e below (T140.setTop (mkF m 112 #[.val (.int p1), .val (.int p2), .val (.int p3), .val (.int p4), .val (.int p5), .val (.int p6), .val (.double (FP.i2d p3)), .second, .val (.double (FP.i2d p4)), .second, .val (.double (FP.i2d p5)), .second, .val (.double (FP.i2d p6)), .second, .val (.int (4 : Int32)), .val (.ref b134), .val (.ref b_140), .unset] [(.int (0 : Int32))])) _
          refine XS.ifYes X140.here hx rfl (pc0 := 112) (pc' := 117) rfl (hb hby at_112) rfl ((if0 _ _).trans (teq ((by decide) : (0 : Int32) = (0 : Int32))).1) (by decide) (by decide) ?_
          show Steps p.tables e below (T140.setTop (mkF m 117 #[.val (.int p1), .val (.int p2), .val (.int p3), .val (.int p4), .val (.int p5), .val (.int p6), .val (.double (FP.i2d p3)), .second, .val (.double (FP.i2d p4)), .second, .val (.double (FP.i2d p5)), .second, .val (.double (FP.i2d p6)), .second, .val (.int (4 : Int32)), .val (.ref b134), .val (.ref b_140), .unset] [])) _
          refine XS.iload X140.here hx rfl (hb hby at_117) rfl ?_
          show Steps p.tables e below (T140.setTop (mkF m 119 #[.val (.int p1), .val (.int p2), .val (.int p3), .val (.int p4), .val (.int p5), .val (.int p6), .val (.double (FP.i2d p3)), .second, .val (.double (FP.i2d p4)), .second, .val (.double (FP.i2d p5)), .second, .val (.double (FP.i2d p6)), .second, .val (.int (4 : Int32)), .val (.ref b134), .val (.ref b_140), .unset] [(.int (4 : Int32))])) _
          refine XS.iconst X140.here hx rfl (hb hby at_119) ?_
          show Steps p.tables e below (T140.setTop (mkF m 120 #[.val (.int p1), .val (.int p2), .val (.int p3), .val (.int p4), .val (.int p5), .val (.int p6), .val (.double (FP.i2d p3)), .second, .val (.double (FP.i2d p4)), .second, .val (.double (FP.i2d p5)), .second, .val (.double (FP.i2d p6)), .second, .val (.int (4 : Int32)), .val (.ref b134), .val (.ref b_140), .unset] [(.int (1 : Int32)), (.int (4 : Int32))])) _
          refine XS.icmpNo X140.here hx rfl (hb hby at_120) rfl (tlt ((by decide) : (1 : Int32) < (4 : Int32))).2.2.2 ?_
          show Steps p.tables e below (T140.setTop (mkF m 123 #[.val (.int p1), .val (.int p2), .val (.int p3), .val (.int p4), .val (.int p5), .val (.int p6), .val (.double (FP.i2d p3)), .second, .val (.double (FP.i2d p4)), .second, .val (.double (FP.i2d p5)), .second, .val (.double (FP.i2d p6)), .second, .val (.int (4 : Int32)), .val (.ref b134), .val (.ref b_140), .unset] [])) _
          refine XS.aload X140.here hx rfl (hb hby at_123) rfl rfl ?_
          show Steps p.tables e below (T140.setTop (mkF m 125 #[.val (.int p1), .val (.int p2), .val (.int p3), .val (.int p4), .val (.int p5), .val (.int p6), .val (.double (FP.i2d p3)), .second, .val (.double (FP.i2d p4)), .second, .val (.double (FP.i2d p5)), .second, .val (.double (FP.i2d p6)), .second, .val (.int (4 : Int32)), .val (.ref b134), .val (.ref b_140), .unset] [(.ref b_140)])) _
          refine XS.iconst X140.here hx rfl (hb hby at_125) ?_
          show Steps p.tables e below (T140.setTop (mkF m 126 #[.val (.int p1), .val (.int p2), .val (.int p3), .val (.int p4), .val (.int p5), .val (.int p6), .val (.double (FP.i2d p3)), .second, .val (.double (FP.i2d p4)), .second, .val (.double (FP.i2d p5)), .second, .val (.double (FP.i2d p6)), .second, .val (.int (4 : Int32)), .val (.ref b134), .val (.ref b_140), .unset] [(.int (1 : Int32)), (.ref b_140)])) _
          refine X140.daload hx (j := (1 : Int32)) (v := (.double (FP.i2d p3))) Ar152.1 (State.isArrayOf_alike hZ.alike Ar152.2.1) Ar152.2.2 in153 at154 (g := (mkF m 126 #[.val (.int p1), .val (.int p2), .val (.int p3), .val (.int p4), .val (.int p5), .val (.int p6), .val (.double (FP.i2d p3)), .second, .val (.double (FP.i2d p4)), .second, .val (.double (FP.i2d p5)), .second, .val (.double (FP.i2d p6)), .second, .val (.int (4 : Int32)), .val (.ref b134), .val (.ref b_140), .unset] [(.int (1 : Int32)), (.ref b_140)])) rfl rfl (hb hby at_126) _ ?_
          show Steps p.tables e below (T140.setTop (mkF m 127 #[.val (.int p1), .val (.int p2), .val (.int p3), .val (.int p4), .val (.int p5), .val (.int p6), .val (.double (FP.i2d p3)), .second, .val (.double (FP.i2d p4)), .second, .val (.double (FP.i2d p5)), .second, .val (.double (FP.i2d p6)), .second, .val (.int (4 : Int32)), .val (.ref b134), .val (.ref b_140), .unset] [(.double (FP.i2d p3))])) _
          refine XS.dload X140.here hx rfl (hb hby at_127) rfl ?_
          show Steps p.tables e below (T140.setTop (mkF m 129 #[.val (.int p1), .val (.int p2), .val (.int p3), .val (.int p4), .val (.int p5), .val (.int p6), .val (.double (FP.i2d p3)), .second, .val (.double (FP.i2d p4)), .second, .val (.double (FP.i2d p5)), .second, .val (.double (FP.i2d p6)), .second, .val (.int (4 : Int32)), .val (.ref b134), .val (.ref b_140), .unset] [(.double (FP.i2d p3)), (.double (FP.i2d p3))])) _
          refine XS.dcmpS X140.here hx rfl (hb hby at_129) rfl (v := (0 : Int32)) (dcmpV_self (Fl.i2d_fin _).noNaN .l) ?_
          show Steps p.tables e below (T140.setTop (mkF m 130 #[.val (.int p1), .val (.int p2), .val (.int p3), .val (.int p4), .val (.int p5), .val (.int p6), .val (.double (FP.i2d p3)), .second, .val (.double (FP.i2d p4)), .second, .val (.double (FP.i2d p5)), .second, .val (.double (FP.i2d p6)), .second, .val (.int (4 : Int32)), .val (.ref b134), .val (.ref b_140), .unset] [(.int (0 : Int32))])) _
          refine XS.ifYes X140.here hx rfl (pc0 := 130) (pc' := 135) rfl (hb hby at_130) rfl ((if0 _ _).trans (teq ((by decide) : (0 : Int32) = (0 : Int32))).1) (by decide) (by decide) ?_
          show Steps p.tables e below (T140.setTop (mkF m 135 #[.val (.int p1), .val (.int p2), .val (.int p3), .val (.int p4), .val (.int p5), .val (.int p6), .val (.double (FP.i2d p3)), .second, .val (.double (FP.i2d p4)), .second, .val (.double (FP.i2d p5)), .second, .val (.double (FP.i2d p6)), .second, .val (.int (4 : Int32)), .val (.ref b134), .val (.ref b_140), .unset] [])) _
          refine XS.iload X140.here hx rfl (hb hby at_135) rfl ?_
          show Steps p.tables e below (T140.setTop (mkF m 137 #[.val (.int p1), .val (.int p2), .val (.int p3), .val (.int p4), .val (.int p5), .val (.int p6), .val (.double (FP.i2d p3)), .second, .val (.double (FP.i2d p4)), .second, .val (.double (FP.i2d p5)), .second, .val (.double (FP.i2d p6)), .second, .val (.int (4 : Int32)), .val (.ref b134), .val (.ref b_140), .unset] [(.int (4 : Int32))])) _
          refine XS.iconst X140.here hx rfl (hb hby at_137) ?_
          show Steps p.tables e below (T140.setTop (mkF m 138 #[.val (.int p1), .val (.int p2), .val (.int p3), .val (.int p4), .val (.int p5), .val (.int p6), .val (.double (FP.i2d p3)), .second, .val (.double (FP.i2d p4)), .second, .val (.double (FP.i2d p5)), .second, .val (.double (FP.i2d p6)), .second, .val (.int (4 : Int32)), .val (.ref b134), .val (.ref b_140), .unset] [(.int (2 : Int32)), (.int (4 : Int32))])) _
          refine XS.icmpNo X140.here hx rfl (hb hby at_138) rfl (tlt ((by decide) : (2 : Int32) < (4 : Int32))).2.2.2 ?_
          show Steps p.tables e below (T140.setTop (mkF m 141 #[.val (.int p1), .val (.int p2), .val (.int p3), .val (.int p4), .val (.int p5), .val (.int p6), .val (.double (FP.i2d p3)), .second, .val (.double (FP.i2d p4)), .second, .val (.double (FP.i2d p5)), .second, .val (.double (FP.i2d p6)), .second, .val (.int (4 : Int32)), .val (.ref b134), .val (.ref b_140), .unset] [])) _
          refine XS.aload X140.here hx rfl (hb hby at_141) rfl rfl ?_
          show Steps p.tables e below (T140.setTop (mkF m 143 #[.val (.int p1), .val (.int p2), .val (.int p3), .val (.int p4), .val (.int p5), .val (.int p6), .val (.double (FP.i2d p3)), .second, .val (.double (FP.i2d p4)), .second, .val (.double (FP.i2d p5)), .second, .val (.double (FP.i2d p6)), .second, .val (.int (4 : Int32)), .val (.ref b134), .val (.ref b_140), .unset] [(.ref b_140)])) _
          refine XS.iconst X140.here hx rfl (hb hby at_143) ?_
          show Steps p.tables e below (T140.setTop (mkF m 144 #[.val (.int p1), .val (.int p2), .val (.int p3), .val (.int p4), .val (.int p5), .val (.int p6), .val (.double (FP.i2d p3)), .second, .val (.double (FP.i2d p4)), .second, .val (.double (FP.i2d p5)), .second, .val (.double (FP.i2d p6)), .second, .val (.int (4 : Int32)), .val (.ref b134), .val (.ref b_140), .unset] [(.int (2 : Int32)), (.ref b_140)])) _
          refine X140.daload hx (j := (2 : Int32)) (v := (.double (FP.i2d p3))) Ar155.1 (State.isArrayOf_alike hZ.alike Ar155.2.1) Ar155.2.2 in156 at157 (g := (mkF m 144 #[.val (.int p1), .val (.int p2), .val (.int p3), .val (.int p4), .val (.int p5), .val (.int p6), .val (.double (FP.i2d p3)), .second, .val (.double (FP.i2d p4)), .second, .val (.double (FP.i2d p5)), .second, .val (.double (FP.i2d p6)), .second, .val (.int (4 : Int32)), .val (.ref b134), .val (.ref b_140), .unset] [(.int (2 : Int32)), (.ref b_140)])) rfl rfl (hb hby at_144) _ ?_
          show Steps p.tables e below (T140.setTop (mkF m 145 #[.val (.int p1), .val (.int p2), .val (.int p3), .val (.int p4), .val (.int p5), .val (.int p6), .val (.double (FP.i2d p3)), .second, .val (.double (FP.i2d p4)), .second, .val (.double (FP.i2d p5)), .second, .val (.double (FP.i2d p6)), .second, .val (.int (4 : Int32)), .val (.ref b134), .val (.ref b_140), .unset] [(.double (FP.i2d p3))])) _
          refine XS.dload X140.here hx rfl (hb hby at_145) rfl ?_
          show Steps p.tables e below (T140.setTop (mkF m 147 #[.val (.int p1), .val (.int p2), .val (.int p3), .val (.int p4), .val (.int p5), .val (.int p6), .val (.double (FP.i2d p3)), .second, .val (.double (FP.i2d p4)), .second, .val (.double (FP.i2d p5)), .second, .val (.double (FP.i2d p6)), .second, .val (.int (4 : Int32)), .val (.ref b134), .val (.ref b_140), .unset] [(.double (FP.i2d p3)), (.double (FP.i2d p3))])) _
          refine XS.dcmpS X140.here hx rfl (hb hby at_147) rfl (v := (0 : Int32)) (dcmpV_self (Fl.i2d_fin _).noNaN .l) ?_
          show Steps p.tables e below (T140.setTop (mkF m 148 #[.val (.int p1), .val (.int p2), .val (.int p3), .val (.int p4), .val (.int p5), .val (.int p6), .val (.double (FP.i2d p3)), .second, .val (.double (FP.i2d p4)), .second, .val (.double (FP.i2d p5)), .second, .val (.double (FP.i2d p6)), .second, .val (.int (4 : Int32)), .val (.ref b134), .val (.ref b_140), .unset] [(.int (0 : Int32))])) _
          refine XS.ifYes X140.here hx rfl (pc0 := 148) (pc' := 153) rfl (hb hby at_148) rfl ((if0 _ _).trans (teq ((by decide) : (0 : Int32) = (0 : Int32))).1) (by decide) (by decide) ?_
          show Steps p.tables e below (T140.setTop (mkF m 153 #[.val (.int p1), .val (.int p2), .val (.int p3), .val (.int p4), .val (.int p5), .val (.int p6), .val (.double (FP.i2d p3)), .second, .val (.double (FP.i2d p4)), .second, .val (.double (FP.i2d p5)), .second, .val (.double (FP.i2d p6)), .second, .val (.int (4 : Int32)), .val (.ref b134), .val (.ref b_140), .unset] [])) _
          refine XS.iload X140.here hx rfl (hb hby at_153) rfl ?_
          show Steps p.tables e below (T140.setTop (mkF m 155 #[.val (.int p1), .val (.int p2), .val (.int p3), .val (.int p4), .val (.int p5), .val (.int p6), .val (.double (FP.i2d p3)), .second, .val (.double (FP.i2d p4)), .second, .val (.double (FP.i2d p5)), .second, .val (.double (FP.i2d p6)), .second, .val (.int (4 : Int32)), .val (.ref b134), .val (.ref b_140), .unset] [(.int (4 : Int32))])) _
          refine XS.iconst X140.here hx rfl (hb hby at_155) ?_
          show Steps p.tables e below (T140.setTop (mkF m 156 #[.val (.int p1), .val (.int p2), .val (.int p3), .val (.int p4), .val (.int p5), .val (.int p6), .val (.double (FP.i2d p3)), .second, .val (.double (FP.i2d p4)), .second, .val (.double (FP.i2d p5)), .second, .val (.double (FP.i2d p6)), .second, .val (.int (4 : Int32)), .val (.ref b134), .val (.ref b_140), .unset] [(.int (3 : Int32)), (.int (4 : Int32))])) _
          refine XS.icmpNo X140.here hx rfl (hb hby at_156) rfl (tlt ((by decide) : (3 : Int32) < (4 : Int32))).2.2.2 ?_
          show Steps p.tables e below (T140.setTop (mkF m 159 #[.val (.int p1), .val (.int p2), .val (.int p3), .val (.int p4), .val (.int p5), .val (.int p6), .val (.double (FP.i2d p3)), .second, .val (.double (FP.i2d p4)), .second, .val (.double (FP.i2d p5)), .second, .val (.double (FP.i2d p6)), .second, .val (.int (4 : Int32)), .val (.ref b134), .val (.ref b_140), .unset] [])) _
          refine XS.aload X140.here hx rfl (hb hby at_159) rfl rfl ?_
          show Steps p.tables e below (T140.setTop (mkF m 161 #[.val (.int p1), .val (.int p2), .val (.int p3), .val (.int p4), .val (.int p5), .val (.int p6), .val (.double (FP.i2d p3)), .second, .val (.double (FP.i2d p4)), .second, .val (.double (FP.i2d p5)), .second, .val (.double (FP.i2d p6)), .second, .val (.int (4 : Int32)), .val (.ref b134), .val (.ref b_140), .unset] [(.ref b_140)])) _
          refine XS.iconst X140.here hx rfl (hb hby at_161) ?_
          show Steps p.tables e below (T140.setTop (mkF m 162 #[.val (.int p1), .val (.int p2), .val (.int p3), .val (.int p4), .val (.int p5), .val (.int p6), .val (.double (FP.i2d p3)), .second, .val (.double (FP.i2d p4)), .second, .val (.double (FP.i2d p5)), .second, .val (.double (FP.i2d p6)), .second, .val (.int (4 : Int32)), .val (.ref b134), .val (.ref b_140), .unset] [(.int (3 : Int32)), (.ref b_140)])) _
          refine X140.daload hx (j := (3 : Int32)) (v := (.double (FP.i2d p3))) Ar158.1 (State.isArrayOf_alike hZ.alike Ar158.2.1) Ar158.2.2 in159 at160 (g := (mkF m 162 #[.val (.int p1), .val (.int p2), .val (.int p3), .val (.int p4), .val (.int p5), .val (.int p6), .val (.double (FP.i2d p3)), .second, .val (.double (FP.i2d p4)), .second, .val (.double (FP.i2d p5)), .second, .val (.double (FP.i2d p6)), .second, .val (.int (4 : Int32)), .val (.ref b134), .val (.ref b_140), .unset] [(.int (3 : Int32)), (.ref b_140)])) rfl rfl (hb hby at_162) _ ?_
          show Steps p.tables e below (T140.setTop (mkF m 163 #[.val (.int p1), .val (.int p2), .val (.int p3), .val (.int p4), .val (.int p5), .val (.int p6), .val (.double (FP.i2d p3)), .second, .val (.double (FP.i2d p4)), .second, .val (.double (FP.i2d p5)), .second, .val (.double (FP.i2d p6)), .second, .val (.int (4 : Int32)), .val (.ref b134), .val (.ref b_140), .unset] [(.double (FP.i2d p3))])) _
          refine XS.dload X140.here hx rfl (hb hby at_163) rfl ?_
          show Steps p.tables e below (T140.setTop (mkF m 165 #[.val (.int p1), .val (.int p2), .val (.int p3), .val (.int p4), .val (.int p5), .val (.int p6), .val (.double (FP.i2d p3)), .second, .val (.double (FP.i2d p4)), .second, .val (.double (FP.i2d p5)), .second, .val (.double (FP.i2d p6)), .second, .val (.int (4 : Int32)), .val (.ref b134), .val (.ref b_140), .unset] [(.double (FP.i2d p3)), (.double (FP.i2d p3))])) _
          refine XS.dcmpS X140.here hx rfl (hb hby at_165) rfl (v := (0 : Int32)) (dcmpV_self (Fl.i2d_fin _).noNaN .l) ?_
          show Steps p.tables e below (T140.setTop (mkF m 166 #[.val (.int p1), .val (.int p2), .val (.int p3), .val (.int p4), .val (.int p5), .val (.int p6), .val (.double (FP.i2d p3)), .second, .val (.double (FP.i2d p4)), .second, .val (.double (FP.i2d p5)), .second, .val (.double (FP.i2d p6)), .second, .val (.int (4 : Int32)), .val (.ref b134), .val (.ref b_140), .unset] [(.int (0 : Int32))])) _
          refine XS.ifYes X140.here hx rfl (pc0 := 166) (pc' := 171) rfl (hb hby at_166) rfl ((if0 _ _).trans (teq ((by decide) : (0 : Int32) = (0 : Int32))).1) (by decide) (by decide) ?_
          show Steps p.tables e below (T140.setTop (mkF m 171 #[.val (.int p1), .val (.int p2), .val (.int p3), .val (.int p4), .val (.int p5), .val (.int p6), .val (.double (FP.i2d p3)), .second, .val (.double (FP.i2d p4)), .second, .val (.double (FP.i2d p5)), .second, .val (.double (FP.i2d p6)), .second, .val (.int (4 : Int32)), .val (.ref b134), .val (.ref b_140), .unset] [])) _
          refine XS.iconst X140.here hx rfl (hb hby at_171) ?_
          exact kt)
      obtain ⟨fs, hr, hrun, hended, hW, hsame⟩ := X140.leave (v := some (.int (1 : Int32))) (fun h => by rw [Bd.returns] at h; cases h)
      refine ⟨_, _, pre161 _ ?_, hrun, hended, _, _, rfl, ?_, ⟨_, rfl⟩, hW, hsame.mono (by decide) (by decide)⟩
      · show Steps p.tables e below (T140.setTop (mkF m 172 #[.val (.int p1), .val (.int p2), .val (.int p3), .val (.int p4), .val (.int p5), .val (.int p6), .val (.double (FP.i2d p3)), .second, .val (.double (FP.i2d p4)), .second, .val (.double (FP.i2d p5)), .second, .val (.double (FP.i2d p6)), .second, .val (.int (4 : Int32)), .val (.ref b134), .val (.ref b_140), .unset] [(.int (1 : Int32))])) _
        exact retN X140 hx (t := .boolean) Bd.returns (by simp) (hb hby at_172) hr
      · show Q0 Z p1 p2 p3 p4 p5 p6 h0 n0 _ T140.heap _
        exact ⟨rfl, N140⟩
set_option maxRecDepth 65536 in
set_option maxHeartbeats 40000000 in
theorem comes_1 {Post : Tables → Env → Array Value → State → Outcome → State → Prop} (hpost : ∀ tb e args s v u, (limb_1_1.after args s (.returned v) u = true ∧ limb_1_2.after args s (.returned v) u = true ∧ True) → FrameEnd s (.returned v) u (Jvm.fieldLocs frame_1_writes args s ++ Jvm.arrayLocs frame_1_arrays args s ++ Jvm.staticLocs frame_1_statics s) 16 128 → Post tb e args s (.returned v) u) :
    ArmFor flags0 classFile x code maxLocals ret World_1 tables_1 room_1 Calls_1 rest_1 Pre_1 Post := by
  intro l hfl _ _ p e ha hc hk s m args below hf hA hF happ hP
  obtain ⟨hcalls, hrest, hpre⟩ := hP
  obtain ⟨-, -, -, hnamed, -, -, -, hat⟩ := (Spec.applies_iff hf).mp happ
  obtain ⟨hg, hn⟩ := and_e (Cond.before_iff.mp (show (Jvm.Cond.and given_1 narrow_1).before args s = true from hpre))
  obtain ⟨g1, g2⟩ := and_e hg
  obtain ⟨g3, g4⟩ := and_e g2
  obtain ⟨g5, g6⟩ := and_e g4
  obtain ⟨g7, g8⟩ := and_e g6
  obtain ⟨g9, g10⟩ := and_e g8
  obtain ⟨g11, g12⟩ := and_e g10
  obtain ⟨w0, w1, w2, w3, w4, w5, rfl⟩ : ∃ w0 w1 w2 w3 w4 w5 : Value, args = #[w0, w1, w2, w3, w4, w5] := by
    have hs : args.size = 6 := by simpa [Cond.value, given_1] using g1
    obtain ⟨L⟩ := args
    match L, hs with
    | [w0, w1, w2, w3, w4, w5], _ => exact ⟨w0, w1, w2, w3, w4, w5, rfl⟩
  have hw := fun d (hd : d ∈ tables_1) => atoms_spec (ws := Jvm.Cond.code x code maxLocals ret :: tables_1) hat d (List.mem_cons_of_mem _ hd)
  have hfit : Fit s := fun {y c} hc i hi => by
    obtain ⟨ha, rfl⟩ := Array.getElem?_eq_some_iff.mp hc
    have q := List.all_eq_true.mp ((Array.all_eq_true_iff_forall_mem.mp hF) _ (Array.getElem_mem ha)) i (List.mem_range.mpr hi)
    simpa [Array.getElem?_eq_getElem hi] using q
  obtain ⟨i0, ei0⟩ := is_v g3
  obtain rfl : w0 = (.int i0) := Option.some.inj ei0
  obtain ⟨i1, ei1⟩ := is_v g5
  obtain rfl : w1 = (.int i1) := Option.some.inj ei1
  obtain ⟨i2, ei2⟩ := is_v g7
  obtain rfl : w2 = (.int i2) := Option.some.inj ei2
  obtain ⟨i3, ei3⟩ := is_v g9
  obtain rfl : w3 = (.int i3) := Option.some.inj ei3
  obtain ⟨i4, ei4⟩ := is_v g11
  obtain rfl : w4 = (.int i4) := Option.some.inj ei4
  obtain ⟨i5, ei5⟩ := is_v g12
  obtain rfl : w5 = (.int i5) := Option.some.inj ei5
  obtain ⟨n, o, h1, h2, h3, _, L, rfl, ⟨rfl, N⟩, hq⟩ := rm0 l s _ hw tables_1 i0 i1 i2 i3 i4 i5 s.heap s.heap.size (Nat.le_refl _)  p e ha hc hk s m _ below hf ((Spec.applies_iff_loose hf).mp happ).1 ⟨rfl, State.Warmed39.refl s, rfl⟩ trivial
  refine ⟨n, _, h1, h2, h3, hpost _ _ _ _ _ _ ⟨Cond.after_iff.mpr rfl, Cond.after_iff.mpr (eq_i res_at (Term.int_eval (1)) rfl), trivial⟩ ⟨hq.1, hq.2.1, (hq.2.2.sift fun y hy => Or.inr (N y hy)).mono (by decide) (by decide)⟩⟩
theorem main_1_1 : Claimed_1_1 := comes_1 fun _ _ _ _ _ _ h hF => ⟨h.1, hF⟩
theorem main_1_2 : Claimed_1_2 := comes_1 fun _ _ _ _ _ _ h hF => ⟨h.2.1, hF⟩
end Jvm.Pilot.@@N@@
namespace Jvm.Pilot.@@N@@
open Jvm Jvm.ClassFile Sem Op Lib Jvm.Free Jvm.Stand Jvm.Pilot.@@N@@.Jvm.D
/-! MADE BY PROGRAM (witnessworld.py) out of the Statement's table words and the real class files: 12 classes; the members and pool entries that the words name. The judged class is class 1, her method 1. -/
namespace start1
open Jvm.ClassFile
def u (s : String) : CpInfo := .utf8 (stringToUtf16 s)
/-- a pool by its gaps: so many unusable entries, then the entry; so many at the end -/
def gap : Nat → List CpInfo → List CpInfo
  | 0, r => r
  | n + 1, r => .unusable :: gap n r
def poolList (es : List (Nat × CpInfo)) (last : Nat) : List CpInfo := es.foldr (fun e r => gap e.1 (e.2 :: r)) (gap last [])
def pool (es : List (Nat × CpInfo)) (last : Nat) : Array CpInfo := ⟨poolList es last⟩
def fileOf (pool : Array CpInfo) (this : Nat) (attrs : Array Attribute := #[]) (ms : Array MethodInfo := #[]) (fl : Nat := 33) (sup : Nat := 0) (ifs : Array Nat := #[]) (fds : Array FieldInfo := #[]) : ClassFile where
  minorVersion := 0
  majorVersion := 65
  constantPool := pool
  accessFlags := fl
  thisClass := this
  superClass := sup
  interfaces := ifs
  fields := fds
  methods := ms
  attributes := attrs
def plain (name : String) (sup : Option ClassId) : Class where
  name := name
  kind := .ordinary
  loader := none
  accessFlags := 33
  super := sup
  interfaces := #[]
  cf := none
  fields := #[]
  methods := #[]
  instanceTypes := #[]
  staticTypes := #[]
  resolved := #[]
  callSites := []
  init := .initialized
  statics := none
  mirror := none

def pool0 : Array CpInfo := pool [(5, u "<init>"), (0, u "()V"), (1, .class_ 10), (1, u "java/lang/Object")] 113

def k0m0 : Method := { name := "<init>", desc := "()V", sig := { parameters := [], returnType := none }, accessFlags := 1, code := none }
/-- java/lang/Object -/
def k0 : Class := { plain "java/lang/Object" none with
  accessFlags := 33
  interfaces := #[]
  cf := some (fileOf pool0 8 #[] #[{ accessFlags := 1, nameIndex := 5, descriptorIndex := 6, attributes := #[] }] 33 0 #[] #[])
  fields := #[]
  methods := #[k0m0]
  instanceTypes := #[]
  staticTypes := #[]
  resolved := Array.replicate 124 none
  statics := none }

def pool1 : Array CpInfo := pool [(2, .class_ 4), (1, u "java/lang/Object"), (0, u "<init>"), (0, u "()V"), (0, .integer 2147483647), (0, .methodref 9 10), (0, .class_ 11), (0, .nameAndType 12 13), (0, u "com/example/manyfront/manyfront/cli/ReferencePoint"), (0, u "fit"), (0, u "([DI)[D"), (0, .methodref 15 16), (0, .class_ 17), (0, .nameAndType 18 19), (0, u "com/example/manyfront/manyfront/cli/ReferencePointFitPinLaw"), (0, u "make"), (0, u "(IDDDD)[D"), (2, u "law"), (0, u "(IIIIII)Z")] 8

def k1m0 : Method := { name := "<init>", desc := "()V", sig := { parameters := [], returnType := none }, accessFlags := 2, code := none }
def k1c1 : Code := { maxStack := 9, maxLocals := 18, code := code, exceptionTable := #[], attributes := #[] }
def k1m1 : Method := { name := "law", desc := "(IIIIII)Z", sig := { parameters := [.int, .int, .int, .int, .int, .int], returnType := some .boolean }, accessFlags := 9, code := some k1c1 }
def k1c2 : Code := { maxStack := 5, maxLocals := 9, code := method_3_code, exceptionTable := #[], attributes := #[] }
def k1m2 : Method := { name := "make", desc := "(IDDDD)[D", sig := { parameters := [.int, .double, .double, .double, .double], returnType := some (.array .double) }, accessFlags := 10, code := some k1c2 }
/-- com/example/manyfront/manyfront/cli/ReferencePointFitPinLaw -/
def k1 : Class := { plain "com/example/manyfront/manyfront/cli/ReferencePointFitPinLaw" (some 0) with
  accessFlags := 49
  interfaces := #[]
  cf := some (fileOf pool1 15 #[] #[{ accessFlags := 2, nameIndex := 5, descriptorIndex := 6, attributes := #[] }, { accessFlags := 9, nameIndex := 22, descriptorIndex := 23, attributes := #[] }, { accessFlags := 10, nameIndex := 18, descriptorIndex := 19, attributes := #[] }] 49 2 #[] #[])
  fields := #[]
  methods := #[k1m0, k1m1, k1m2]
  instanceTypes := #[]
  staticTypes := #[]
  resolved := Array.replicate 32 none
  statics := none }

def pool2 : Array CpInfo := pool [(2, .class_ 4), (1, u "java/lang/Object"), (0, u "<init>"), (0, u "()V"), (0, .methodref 8 9), (0, .class_ 10), (0, .nameAndType 11 12), (0, u "java/util/Arrays"), (0, u "fill"), (0, u "([DD)V"), (25, .class_ 39), (0, u "com/example/manyfront/manyfront/cli/ReferencePoint"), (2, u "fit"), (0, u "([DI)[D")] 4

def k2m0 : Method := { name := "<init>", desc := "()V", sig := { parameters := [], returnType := none }, accessFlags := 2, code := none }
def k2c1 : Code := { maxStack := 8, maxLocals := 3, code := prog_10_method_2_code, exceptionTable := #[], attributes := #[] }
def k2m1 : Method := { name := "fit", desc := "([DI)[D", sig := { parameters := [(.array .double), .int], returnType := some (.array .double) }, accessFlags := 8, code := some k2c1 }
/-- com/example/manyfront/manyfront/cli/ReferencePoint -/
def k2 : Class := { plain "com/example/manyfront/manyfront/cli/ReferencePoint" (some 0) with
  accessFlags := 48
  interfaces := #[]
  cf := some (fileOf pool2 38 #[] #[{ accessFlags := 2, nameIndex := 5, descriptorIndex := 6, attributes := #[] }, { accessFlags := 8, nameIndex := 42, descriptorIndex := 43, attributes := #[] }] 48 2 #[] #[])
  fields := #[]
  methods := #[k2m0, k2m1]
  instanceTypes := #[]
  staticTypes := #[]
  resolved := Array.replicate 48 none
  statics := none }

def pool3 : Array CpInfo := pool [(2, .class_ 4), (1, u "java/lang/Object"), (0, u "<init>"), (0, u "()V"), (7, .class_ 16), (1, u "java/util/Arrays"), (57, .class_ 76), (1, u "java/util/Arrays$NaturalOrder"), (36, .class_ 115), (1, u "java/util/Arrays$LegacyMergeSort"), (1, u "Z"), (257, .class_ 376), (0, u "java/util/Arrays$ArrayList"), (68, u "$assertionsDisabled"), (269, u "MIN_ARRAY_SORT_GRAN"), (0, u "I"), (2, u "INSERTIONSORT_THRESHOLD"), (120, u "fill"), (13, u "([DD)V"), (120, .class_ 976), (0, u "java/util/Arrays$ArrayItr")] 52

def k3m0 : Method := { name := "<init>", desc := "()V", sig := { parameters := [], returnType := none }, accessFlags := 2, code := none }
def k3c1 : Code := { maxStack := 4, maxLocals := 5, code := jdk_65_method_113_code, exceptionTable := #[], attributes := #[] }
def k3m1 : Method := { name := "fill", desc := "([DD)V", sig := { parameters := [(.array .double), .double], returnType := none }, accessFlags := 9, code := some k3c1 }
/-- java/util/Arrays -/
def k3 : Class := { plain "java/util/Arrays" (some 0) with
  accessFlags := 49
  interfaces := #[]
  cf := some (fileOf pool3 14 #[.nestMembers #[975, 375, 113, 74]] #[{ accessFlags := 2, nameIndex := 5, descriptorIndex := 6, attributes := #[] }, { accessFlags := 9, nameIndex := 840, descriptorIndex := 854, attributes := #[] }] 49 2 #[] #[{ accessFlags := 26, nameIndex := 715, descriptorIndex := 716, attributes := #[] }, { accessFlags := 26, nameIndex := 719, descriptorIndex := 716, attributes := #[] }, { accessFlags := 4120, nameIndex := 445, descriptorIndex := 117, attributes := #[] }])
  fields := #[{ name := "MIN_ARRAY_SORT_GRAN", type := .int, accessFlags := 26, slot := 0, constantValue := 0 }, { name := "INSERTIONSORT_THRESHOLD", type := .int, accessFlags := 26, slot := 1, constantValue := 0 }, { name := "$assertionsDisabled", type := .boolean, accessFlags := 4120, slot := 2, constantValue := 0 }]
  methods := #[k3m0, k3m1]
  instanceTypes := #[]
  staticTypes := #[.int, .int, .boolean]
  resolved := Array.replicate 1029 none
  statics := none }

def pool4 : Array CpInfo := pool [(1, u "java/lang/Cloneable"), (0, .class_ 1), (0, u "java/lang/Object"), (0, .class_ 3)] 3

/-- java/lang/Cloneable -/
def k4 : Class := { plain "java/lang/Cloneable" (some 0) with
  accessFlags := 1537
  interfaces := #[]
  cf := some (fileOf pool4 2 #[] #[] 1537 4 #[] #[])
  fields := #[]
  methods := #[]
  instanceTypes := #[]
  staticTypes := #[]
  resolved := Array.replicate 8 none
  statics := none }

def pool5 : Array CpInfo := pool [(1, u "java/io/Serializable"), (0, .class_ 1), (0, u "java/lang/Object"), (0, .class_ 3)] 3

/-- java/io/Serializable -/
def k5 : Class := { plain "java/io/Serializable" (some 0) with
  accessFlags := 1537
  interfaces := #[]
  cf := some (fileOf pool5 2 #[] #[] 1537 4 #[] #[])
  fields := #[]
  methods := #[]
  instanceTypes := #[]
  staticTypes := #[]
  resolved := Array.replicate 8 none
  statics := none }

/-- the primitive byte -/
def k6 : Class := { plain "byte" none with kind := .primitive 'B', accessFlags := 0x411 }
/-- [B -/
def k7 : Class := { plain "[B" (some 0) with kind := .array 6 .byte, interfaces := #[4, 5], accessFlags := 1041 }

/-- the primitive double -/
def k8 : Class := { plain "double" none with kind := .primitive 'D', accessFlags := 0x411 }
/-- [D -/
def k9 : Class := { plain "[D" (some 0) with kind := .array 8 .double, interfaces := #[4, 5], accessFlags := 1041 }

/-- the primitive int -/
def k10 : Class := { plain "int" none with kind := .primitive 'I', accessFlags := 0x411 }
/-- [I -/
def k11 : Class := { plain "[I" (some 0) with kind := .array 10 .int, interfaces := #[4, 5], accessFlags := 1041 }

def heap : Heap := #[]
def classes : Array Class := #[k0, k1, k2, k3, k4, k5, k6, k7, k8, k9, k10, k11]
def interned : List (Array UInt16 × Addr) := []
def slotsUsed : Nat := 0
def theMethod : MethodId := ⟨1, 1⟩
def args0 : Array Value := #[.int 5, .int 5, .int 5, .int 5, .int 5, .int 5]
def aboutOver (below : List Frame) : State where
  vm := { classes := classes, interned := interned.toArray }
  heap := heap
  slotsUsed := slotsUsed
  threads := #[{ frames := .invoking theMethod args0 :: below }]
def below0 : List Frame := [.native { method := ⟨0, 0⟩, args := #[] }]
def about1 : State := aboutOver below0
def p0 : Program := .bare "" "" ""
def e0 : Env := launch0.env 0 0 0
theorem w_frames : about1.frames = Frame.invoking theMethod args0 :: below0 := rfl
set_option maxRecDepth 65536 in
theorem w_args : argsFit about1.vm theMethod args0 = true := by decide +kernel
set_option maxRecDepth 65536 in
theorem w_heap : heapFits about1 = true := by decide +kernel
set_option maxRecDepth 65536 in
theorem w_runnable : about1.curStatus? = some .runnable := by decide +kernel
set_option maxRecDepth 65536 in
theorem w_alone : about1.alone = true := by decide +kernel
set_option maxRecDepth 65536 in
theorem w_named : about1.methodNamed? x = some theMethod := by decide +kernel
set_option maxRecDepth 65536 in
theorem w_hears : about1.hears theMethod below0 = true := by decide +kernel
set_option maxRecDepth 65536 in
theorem w_ripe : about1.ripe theMethod args0 below0 = true := by decide +kernel
theorem w_running : about1.status = .running := rfl
set_option maxRecDepth 65536 in
theorem w_room : about1.hasRoom e0.platform room_1 = true :=
  launch0.hasRoom_least _ room_1 (by decide +kernel) (by decide +kernel) (by decide +kernel) (by decide +kernel) (by decide +kernel) (by decide +kernel)
theorem allAtoms_all (ts : List Jvm.Cond) (a : Array Jvm.Value) (st : Jvm.State) : (allAtoms ts).before a st = ts.all (fun c => c.before a st) := by
  induction ts with
  | nil => rfl
  | cons c t ih =>
    show (Jvm.Cond.and c (allAtoms t)).before a st = _
    rw [Jvm.Cond.before_and, ih, List.all_cons]
def words1 : List Jvm.Cond := Jvm.Cond.code x code maxLocals ret :: tables_1
/-- a 'code' word, met by the world's own term for the bytes: nothing is compared byte by byte -/
theorem code_word {y : MethodName} {bytes : ByteArray} {mx : Nat} {rt : Option FieldType} {a : Array Value} {s : State} {m : MethodId} {meth : Method} {c : Code} (h1 : s.methodNamed? y = some m) (h2 : s.vm.method? m = some meth) (h3 : meth.code = some c) (h4 : c.code = bytes)
    (h5 : (c.maxLocals == mx && c.exceptionTable.isEmpty && decide (c.maxStack ≤ mostOperands) && decide (meth.sig.returnType = rt) && !meth.locks && decide (parseMethodDescriptor y.desc = some meth.sig)) = true) : (Jvm.Cond.code y bytes mx rt).before a s = true := by
  simp only [Bool.and_eq_true, beq_iff_eq, Bool.not_eq_true', decide_eq_true_eq] at h5
  obtain ⟨⟨⟨⟨⟨g1, g2⟩, g3⟩, g4⟩, g5⟩, g6⟩ := h5
  simp [Cond.before, Cond.holds, Cond.value, h1, h2, h3, h4, g1, g2, g3, g4, g5, g6]
def isCode : Jvm.Cond → Bool
  | .code _ _ _ _ => true
  | _ => false
theorem all_split {L : List Jvm.Cond} {P : Jvm.Cond → Bool} (h1 : L.all (fun c => isCode c || P c) = true) (h2 : ∀ c ∈ L.filter isCode, P c = true) : L.all P = true := by
  refine List.all_eq_true.mpr fun c hc => ?_
  have h := List.all_eq_true.mp h1 c hc
  rcases Bool.eq_false_or_eq_true (isCode c) with hi | hi
  · exact h2 c (List.mem_filter.mpr ⟨hc, hi⟩)
  · simpa [hi] using h
set_option maxRecDepth 65536 in
theorem w_c0 : (Jvm.Cond.code x code maxLocals ret).before args0 about1 = true := code_word (m := ⟨1, 1⟩) (meth := k1m1) (c := k1c1) (by decide +kernel) rfl rfl rfl (by decide +kernel)
set_option maxRecDepth 65536 in
theorem w_c1 : (Jvm.Cond.code ({ cls := "com/example/manyfront/manyfront/cli/ReferencePointFitPinLaw", name := "make", desc := "(IDDDD)[D" } : Jvm.MethodName) method_3_code (9 : Nat) (Option.some (Jvm.ClassFile.FieldType.array Jvm.ClassFile.FieldType.double))).before args0 about1 = true := code_word (m := ⟨1, 2⟩) (meth := k1m2) (c := k1c2) (by decide +kernel) rfl rfl rfl (by decide +kernel)
set_option maxRecDepth 65536 in
theorem w_c2 : (Jvm.Cond.code ({ cls := "com/example/manyfront/manyfront/cli/ReferencePoint", name := "fit", desc := "([DI)[D" } : Jvm.MethodName) prog_10_method_2_code (3 : Nat) (Option.some (Jvm.ClassFile.FieldType.array Jvm.ClassFile.FieldType.double))).before args0 about1 = true := code_word (m := ⟨2, 1⟩) (meth := k2m1) (c := k2c1) (by decide +kernel) rfl rfl rfl (by decide +kernel)
set_option maxRecDepth 65536 in
theorem w_c3 : (Jvm.Cond.code ({ cls := "java/util/Arrays", name := "fill", desc := "([DD)V" } : Jvm.MethodName) jdk_65_method_113_code (5 : Nat) (Option.none : Option Jvm.ClassFile.FieldType)).before args0 about1 = true := code_word (m := ⟨3, 1⟩) (meth := k3m1) (c := k3c1) (by decide +kernel) rfl rfl rfl (by decide +kernel)
def codes1 : List Jvm.Cond := [Jvm.Cond.code x code maxLocals ret, Jvm.Cond.code ({ cls := "com/example/manyfront/manyfront/cli/ReferencePointFitPinLaw", name := "make", desc := "(IDDDD)[D" } : Jvm.MethodName) method_3_code (9 : Nat) (Option.some (Jvm.ClassFile.FieldType.array Jvm.ClassFile.FieldType.double)), Jvm.Cond.code ({ cls := "com/example/manyfront/manyfront/cli/ReferencePoint", name := "fit", desc := "([DI)[D" } : Jvm.MethodName) prog_10_method_2_code (3 : Nat) (Option.some (Jvm.ClassFile.FieldType.array Jvm.ClassFile.FieldType.double)), Jvm.Cond.code ({ cls := "java/util/Arrays", name := "fill", desc := "([DD)V" } : Jvm.MethodName) jdk_65_method_113_code (5 : Nat) (Option.none : Option Jvm.ClassFile.FieldType)]
set_option maxRecDepth 65536 in
theorem codes_eq : words1.filter isCode = codes1 := rfl
theorem w_codes : ∀ c ∈ words1.filter isCode, c.before args0 about1 = true := by
  rw [codes_eq]
  intro c hc
  simp only [codes1, List.mem_cons, List.not_mem_nil, or_false] at hc
  rcases hc with rfl | rfl | rfl | rfl
  · exact w_c0
  · exact w_c1
  · exact w_c2
  · exact w_c3
set_option maxRecDepth 65536 in
theorem w_t1 : words1.all (fun c => isCode c || c.before args0 about1) = true := by decide +kernel
theorem w_tables : (allAtoms (Jvm.Cond.code x code maxLocals ret :: tables_1)).before args0 about1 = true := by
  rw [allAtoms_all]
  show words1.all (fun c => c.before args0 about1) = true
  refine all_split ?_ w_codes
  rw [w_t1]
set_option maxRecDepth 65536 in
theorem w_case : (Jvm.Cond.and given_1 narrow_1).before args0 about1 = true := by decide +kernel
theorem w_applies : (headSpec (Jvm.Cond.code x code maxLocals ret :: tables_1) room_1).applies x e0.platform about1 = true :=
  (Spec.applies_iff w_frames).mpr ⟨w_running, w_runnable, w_alone, w_named, w_hears, w_ripe, w_room, w_tables⟩
theorem atStart : AtStart classFile x code maxLocals ret World_1 tables_1 room_1 Calls_1 rest_1 Pre_1 launch0 p0 e0 about1 theMethod args0 below0 :=
  ⟨lists_1, trivial, launch0.admits_env _ _ _, launch0.least_env, fairChoices_fair.cas, fairChoices_fair.clock, w_frames, w_args, w_heap, w_applies, trivial, trivial, w_case⟩
end start1
theorem witness_1 : WitnessClaimed_1 := ⟨start1.p0, start1.e0, start1.about1, start1.theMethod, start1.args0, start1.below0, start1.atStart⟩
end Jvm.Pilot.@@N@@
