import JvmDerived
import JvmDerived.Pilot.@@N@@Statement
import JvmDerived.Pilot.@@N@@Code
set_option linter.unusedVariables false
set_option linter.unusedSimpArgs false
namespace Jvm.RoadKit
open Sem ClassFile Op Lib Jvm.Stand Jvm.Free Jvm.LawKit
section New
variable {p : Program} {l : Launch} {e : Env} {R : Room} {s : State} {m : MethodId} {args : Array Value} {below : List Frame} {meth : Method} {c : Code} {T : State} {locs : List Loc} {cells slots : Nat}
theorem retI (X : Stand p l e R s m args below meth c T locs cells slots) (hx : p.tables.exec = Jvm.exec) {pc : Nat} {Ls : Array Slot} {z : Int32} {rest : List Value} (hret : meth.sig.returnType = some .int) (hd : decode c.code pc = .ok (.ireturn, 1)) {fs : List Frame}
    (hl : ∀ (f : JFrame) (acts : List Action), f.method = m → f.locked = none → f.entered = [] → (doReturn e (T.setTop f) acts (some (.int z))).1 = T.setFrames fs) : Steps p.tables e below (T.setTop (mkF m pc Ls (.int z :: rest))) (T.setFrames fs) := by
  have hm' : T.vm.method? m = some meth := X.method'
  have hn : narrow .int (.int z) = .int z := rfl
  show Steps p.tables e below (T.setTop { method := m, pc := pc, locals := Ls, stack := _ :: rest, locked := none }) _
  jvm_step X.here [X.here.top, hx, hd, hm', hret, hn]
  first | (intro acts; rw [hl _ acts rfl rfl rfl]) | rw [hl _ _ rfl rfl rfl]
  exact Steps.refl _
end New
end Jvm.RoadKit
namespace Jvm.Pilot.@@N@@
open Jvm Jvm.ClassFile Sem Op Lib Jvm.Free Jvm.Stand Jvm.LawKit Jvm.RoadKit Bundle Jvm.Pilot.@@N@@.Jvm.D
/-! the case's words as plain facts -/
theorem own_eqI {args : Array Value} {first s : State} {o : Option Outcome} {idx : List Nat} {a b : Term} {z : Int32} (h : (Jvm.Cond.eq a b).value args first o s idx = some true) (hb : b.eval args first o idx s = some (.int z)) : a.eval args first o idx s = some (.int z) := by
  cases ha : a.eval args first o idx s with
  | none => simp [Cond.value, ha] at h
  | some x => cases x <;> simp [Cond.value, ha, hb] at h ⊢; exact h
theorem own_eqR {args : Array Value} {first s : State} {o : Option Outcome} {idx : List Nat} {a b : Term} {z : Addr} (h : (Jvm.Cond.eq a b).value args first o s idx = some true) (hb : b.eval args first o idx s = some (.ref z)) : a.eval args first o idx s = some (.ref z) := by
  cases ha : a.eval args first o idx s with
  | none => simp [Cond.value, ha] at h
  | some x => cases x <;> simp [Cond.value, ha, hb] at h ⊢; exact h
theorem own_ne {Z : State} {h : Heap} {a b : Addr} {C n d : String} {v w : Value} (F : Fld Z h a C n d v) (G : Fld Z h b C n d w) (hne : v ≠ w) : a ≠ b := fun e => by
  subst e
  obtain ⟨c1, cf1, k1, i1, f1, a1, a2, -, -, -, -, a7⟩ := F
  obtain ⟨c2, cf2, k2, i2, f2, b1, b2, -, -, -, -, b7⟩ := G
  cases a1.symm.trans b1
  cases a2.symm.trans b2
  exact hne (Option.some.inj (a7.symm.trans b7))
def own_W (Z : State) (h : Heap) (wVisibility_UNDEFINED : Addr) (wVisibility_VISIBLE : Addr) (wVisibility_USER_MANAGED_VISIBLE : Addr) (wVisibility_NOT_VISIBLE : Addr) (wVisibility_USER_MANAGED_NOT_VISIBLE : Addr) : Prop := (Sta Z h "io/authlatch/callers/Visibility" "UNDEFINED" "Lio/authlatch/callers/Visibility;" (.ref wVisibility_UNDEFINED)) ∧ (Exa Z h wVisibility_UNDEFINED "io/authlatch/callers/Visibility") ∧ (Sta Z h "io/authlatch/callers/Visibility" "VISIBLE" "Lio/authlatch/callers/Visibility;" (.ref wVisibility_VISIBLE)) ∧ (Exa Z h wVisibility_VISIBLE "io/authlatch/callers/Visibility") ∧ (Sta Z h "io/authlatch/callers/Visibility" "USER_MANAGED_VISIBLE" "Lio/authlatch/callers/Visibility;" (.ref wVisibility_USER_MANAGED_VISIBLE)) ∧ (Exa Z h wVisibility_USER_MANAGED_VISIBLE "io/authlatch/callers/Visibility") ∧ (Sta Z h "io/authlatch/callers/Visibility" "NOT_VISIBLE" "Lio/authlatch/callers/Visibility;" (.ref wVisibility_NOT_VISIBLE)) ∧ (Exa Z h wVisibility_NOT_VISIBLE "io/authlatch/callers/Visibility") ∧ (Sta Z h "io/authlatch/callers/Visibility" "USER_MANAGED_NOT_VISIBLE" "Lio/authlatch/callers/Visibility;" (.ref wVisibility_USER_MANAGED_NOT_VISIBLE)) ∧ (Exa Z h wVisibility_USER_MANAGED_NOT_VISIBLE "io/authlatch/callers/Visibility") ∧ (Fld Z h wVisibility_UNDEFINED "java/lang/Enum" "ordinal" "I" (.int (0 : Int32))) ∧ (Fld Z h wVisibility_VISIBLE "java/lang/Enum" "ordinal" "I" (.int (1 : Int32))) ∧ (Fld Z h wVisibility_USER_MANAGED_VISIBLE "java/lang/Enum" "ordinal" "I" (.int (2 : Int32))) ∧ (Fld Z h wVisibility_NOT_VISIBLE "java/lang/Enum" "ordinal" "I" (.int (3 : Int32))) ∧ (Fld Z h wVisibility_USER_MANAGED_NOT_VISIBLE "java/lang/Enum" "ordinal" "I" (.int (4 : Int32))) ∧ (wVisibility_UNDEFINED ≠ wVisibility_VISIBLE) ∧ (wVisibility_UNDEFINED ≠ wVisibility_USER_MANAGED_VISIBLE) ∧ (wVisibility_UNDEFINED ≠ wVisibility_NOT_VISIBLE) ∧ (wVisibility_UNDEFINED ≠ wVisibility_USER_MANAGED_NOT_VISIBLE) ∧ (wVisibility_VISIBLE ≠ wVisibility_USER_MANAGED_VISIBLE) ∧ (wVisibility_VISIBLE ≠ wVisibility_NOT_VISIBLE) ∧ (wVisibility_VISIBLE ≠ wVisibility_USER_MANAGED_NOT_VISIBLE) ∧ (wVisibility_USER_MANAGED_VISIBLE ≠ wVisibility_NOT_VISIBLE) ∧ (wVisibility_USER_MANAGED_VISIBLE ≠ wVisibility_USER_MANAGED_NOT_VISIBLE) ∧ (wVisibility_NOT_VISIBLE ≠ wVisibility_USER_MANAGED_NOT_VISIBLE)
def own_Q (w : Value) (h0 : Heap) (n0 : Nat) (v : Option Value) (h : Heap) (L : List Loc) : Prop := v = some w ∧ Fr n0 L ∧ h = h0
theorem own_range (x : Int32) : ((x &&& (2147483647 : Int32)) % (5 : Int32)) = 0 ∨ ((x &&& (2147483647 : Int32)) % (5 : Int32)) = 1 ∨ ((x &&& (2147483647 : Int32)) % (5 : Int32)) = 2 ∨ ((x &&& (2147483647 : Int32)) % (5 : Int32)) = 3 ∨ ((x &&& (2147483647 : Int32)) % (5 : Int32)) = 4 := by
  have h1 := c_mask x 2147483647 31 (by decide) (by decide)
  have h2 := (c_irem (x &&& 2147483647) 5 5 (by decide)).1 (by rw [h1]; omega)
  generalize (x &&& (2147483647 : Int32)) % (5 : Int32) = k at h2 ⊢
  have a0 : (0 : Int32).toInt = 0 := by decide
  have a1 : (1 : Int32).toInt = 1 := by decide
  have a2 : (2 : Int32).toInt = 2 := by decide
  have a3 : (3 : Int32).toInt = 3 := by decide
  have a4 : (4 : Int32).toInt = 4 := by decide
  simp only [← Int32.toInt_inj, a0, a1, a2, a3, a4]
  omega
theorem own_ef0_I (m : MethodId) (x0 : Int32) : entryFrame m #[(.int x0)] maxLocals = mkF m 0 #[.val (.int x0), .unset, .unset, .unset] [] := by first | (simp [entryFrame, mkF, argsToLocals, Value.category, maxLocals]; done) | rfl
theorem own_ef1_I (m : MethodId) (x0 : Int32) : entryFrame m #[(.int x0)] 1 = mkF m 0 #[.val (.int x0)] [] := by first | (simp [entryFrame, mkF, argsToLocals, Value.category]; done) | rfl
theorem own_d1_0 : decode method_3_code 0 = .ok (.iload_n 0, 1) := by decide +kernel
theorem own_d1_1 : decode method_3_code 1 = .ok (.ifCond .ne 7, 3) := by decide +kernel
theorem own_d1_4 : decode method_3_code 4 = .ok (.getstatic 24, 3) := by decide +kernel
theorem own_d1_7 : decode method_3_code 7 = .ok (.areturn, 1) := by decide +kernel
theorem own_pn_VisibilityServedPinLaw : plainName "io/authlatch/callers/VisibilityServedPinLaw" = true := by first | (simp [plainName, overriddenIn]; done) | decide +kernel
set_option maxRecDepth 65536 in
set_option maxHeartbeats 40000000 in
theorem own_r1_2 (l : Launch) (Z : State) (a0 : Array Value) (hw : ∀ d ∈ tables_1, d.before a0 Z = true) (ws : List Jvm.Cond) (wVisibility_UNDEFINED : Addr) (wVisibility_VISIBLE : Addr) (wVisibility_USER_MANAGED_VISIBLE : Addr) (wVisibility_NOT_VISIBLE : Addr) (wVisibility_USER_MANAGED_NOT_VISIBLE : Addr) (h0 : Heap) (n0 : Nat) (Z0 : n0 ≤ h0.size) (F : own_W Z h0 wVisibility_UNDEFINED wVisibility_VISIBLE wVisibility_USER_MANAGED_VISIBLE wVisibility_NOT_VISIBLE wVisibility_USER_MANAGED_NOT_VISIBLE)   :
    MetFree l (⟨"io/authlatch/callers/VisibilityServedPinLaw", "pick", "(I)Lio/authlatch/callers/Visibility;"⟩ : MethodName) (head1 (Jvm.Cond.code (⟨"io/authlatch/callers/VisibilityServedPinLaw", "pick", "(I)Lio/authlatch/callers/Visibility;"⟩ : MethodName) method_3_code 1 (some (.object "io/authlatch/callers/Visibility")) :: ws) ({ frames := 0, cells := 0, slots := 0, locals := 0 } : Room)) (fun a U => a = #[(.int (0 : Int32))] ∧ Z.Warmed39 U.vm ∧ U.heap = h0) (fun _ _ _ _ _ => True) (fun _ U o U' => ∃ v L, o = .returned v ∧ own_Q (.ref wVisibility_UNDEFINED) h0 n0 v U'.heap L ∧ FrameEnd U o U' L ({ frames := 0, cells := 0, slots := 0, locals := 0 } : Room).cells ({ frames := 0, cells := 0, slots := 0, locals := 0 } : Room).slots) := by
  obtain ⟨S_wVisibility_UNDEFINED, E_wVisibility_UNDEFINED, S_wVisibility_VISIBLE, E_wVisibility_VISIBLE, S_wVisibility_USER_MANAGED_VISIBLE, E_wVisibility_USER_MANAGED_VISIBLE, S_wVisibility_NOT_VISIBLE, E_wVisibility_NOT_VISIBLE, S_wVisibility_USER_MANAGED_NOT_VISIBLE, E_wVisibility_USER_MANAGED_NOT_VISIBLE, F_wVisibility_UNDEFINED_ordinal, F_wVisibility_VISIBLE_ordinal, F_wVisibility_USER_MANAGED_VISIBLE_ordinal, F_wVisibility_NOT_VISIBLE_ordinal, F_wVisibility_USER_MANAGED_NOT_VISIBLE_ordinal, ne_wVisibility_UNDEFINED_wVisibility_VISIBLE, ne_wVisibility_UNDEFINED_wVisibility_USER_MANAGED_VISIBLE, ne_wVisibility_UNDEFINED_wVisibility_NOT_VISIBLE, ne_wVisibility_UNDEFINED_wVisibility_USER_MANAGED_NOT_VISIBLE, ne_wVisibility_VISIBLE_wVisibility_USER_MANAGED_VISIBLE, ne_wVisibility_VISIBLE_wVisibility_NOT_VISIBLE, ne_wVisibility_VISIBLE_wVisibility_USER_MANAGED_NOT_VISIBLE, ne_wVisibility_USER_MANAGED_VISIBLE_wVisibility_NOT_VISIBLE, ne_wVisibility_USER_MANAGED_VISIBLE_wVisibility_USER_MANAGED_NOT_VISIBLE, ne_wVisibility_NOT_VISIBLE_wVisibility_USER_MANAGED_NOT_VISIBLE⟩ := id F
  refine MetFree.of_bodySF (plainFor_of_name own_pn_VisibilityServedPinLaw) hisR ?_
  intro p e s m args below meth c s₁ Bd hml0 hP hK
  obtain ⟨rfl, hZ, hh⟩ := hP
  have hx := Bd.exec
  have hby := Bd.bytes
  have hml : c.maxLocals = 1 := hml0
  have hown : s.vm.findClass "io/authlatch/callers/VisibilityServedPinLaw" = some m.cls := findClass_of_methodNamed Bd.named
  have X0 : Stand p l e ({ frames := 0, cells := 0, slots := 0, locals := 0 } : Room) s m #[(.int (0 : Int32))] below meth c s₁ [] 0 0 := Stand.of_body Bd
  have e0 : s₁.heap = h0 := by rw [← hh, Bd.state]; rfl
  have N0 := Fr.nil n0
  have pre0 : ∀ t, Steps p.tables e below (s₁.setTop (mkF m 0 #[.val (.int (0 : Int32))] [])) t → Steps p.tables e below (s₁.setTop (entryFrame m #[(.int (0 : Int32))] 1)) t := fun t k => castTop (own_ef1_I m (0 : Int32)) k
  obtain ⟨T1, X1, e1, st1⟩ := getS2 X0 hx hZ hown (host := "") (Or.inl (hw _ (List.mem_of_getElem? (i := 5) rfl))) Via.refl e0 S_wVisibility_UNDEFINED (g := (mkF m 4 #[.val (.int (0 : Int32))] [])) rfl (hb hby own_d1_4)
  obtain ⟨fs, hr, hrun, hended, hW, hsame⟩ := X1.leave (v := some (.ref wVisibility_UNDEFINED)) (fun h => by rw [Bd.returns] at h; cases h)
  refine ⟨_, _, pre0 _ ?_, hrun, hended, _, _, rfl, ?_, ⟨_, rfl⟩, hW, hsame.mono (by decide) (by decide)⟩
  · show Steps p.tables e below (s₁.setTop (mkF m 0 #[.val (.int (0 : Int32))] [])) _
    refine XS.iloadN X0.here hx rfl (hb hby own_d1_0) rfl ?_
    show Steps p.tables e below (s₁.setTop (mkF m 1 #[.val (.int (0 : Int32))] [(.int (0 : Int32))])) _
    refine XS.ifNo X0.here hx rfl (hb hby own_d1_1) rfl ((if0 _ _).trans (teq (by decide : (0 : Int32) = (0 : Int32))).2) ?_
    show Steps p.tables e below (s₁.setTop (mkF m 4 #[.val (.int (0 : Int32))] [])) _
    refine st1 _ ?_
    show Steps p.tables e below (T1.setTop (mkF m 7 #[.val (.int (0 : Int32))] [(.ref wVisibility_UNDEFINED)])) _
    jvm_step X1.here [X1.here.top, hx, (hb hby own_d1_7), X1.method', Bd.returns, Value.isRef, FieldType.isReference]
    first | (intro acts; rw [hr _ acts rfl rfl rfl]) | rw [hr _ _ rfl rfl rfl]
    exact Steps.refl _
  · exact ⟨rfl, N0, e1⟩
theorem own_pd0 : parseMethodDescriptor "(I)Lio/authlatch/callers/Visibility;" = some ⟨[.int], some (.object "io/authlatch/callers/Visibility")⟩ := by decide +kernel
theorem own_ef2_R (m : MethodId) (x0 : Addr) : entryFrame m #[(.ref x0)] 1 = mkF m 0 #[.val (.ref x0)] [] := by first | (simp [entryFrame, mkF, argsToLocals, Value.category]; done) | rfl
theorem own_d2_0 : decode prog_32_method_6_code 0 = .ok (.aload_n 0, 1) := by decide +kernel
theorem own_d2_1 : decode prog_32_method_6_code 1 = .ok (.invokevirtual 78, 3) := by decide +kernel
theorem own_ef3_R (m : MethodId) (x0 : Addr) : entryFrame m #[(.ref x0)] 1 = mkF m 0 #[.val (.ref x0)] [] := by first | (simp [entryFrame, mkF, argsToLocals, Value.category]; done) | rfl
theorem own_d3_0 : decode jdk_37_method_2_code 0 = .ok (.aload_n 0, 1) := by decide +kernel
theorem own_d3_1 : decode jdk_37_method_2_code 1 = .ok (.getfield 7, 3) := by decide +kernel
theorem own_d3_4 : decode jdk_37_method_2_code 4 = .ok (.ireturn, 1) := by decide +kernel
theorem own_pn_Enum : plainName "java/lang/Enum" = true := by first | (simp [plainName, overriddenIn]; done) | decide +kernel
set_option maxRecDepth 65536 in
set_option maxHeartbeats 40000000 in
theorem own_r3_4 (l : Launch) (Z : State) (a0 : Array Value) (hw : ∀ d ∈ tables_1, d.before a0 Z = true) (ws : List Jvm.Cond) (wVisibility_UNDEFINED : Addr) (wVisibility_VISIBLE : Addr) (wVisibility_USER_MANAGED_VISIBLE : Addr) (wVisibility_NOT_VISIBLE : Addr) (wVisibility_USER_MANAGED_NOT_VISIBLE : Addr) (h0 : Heap) (n0 : Nat) (Z0 : n0 ≤ h0.size) (F : own_W Z h0 wVisibility_UNDEFINED wVisibility_VISIBLE wVisibility_USER_MANAGED_VISIBLE wVisibility_NOT_VISIBLE wVisibility_USER_MANAGED_NOT_VISIBLE)   :
    MetFree l (⟨"java/lang/Enum", "ordinal", "()I"⟩ : MethodName) (head1 (Jvm.Cond.code (⟨"java/lang/Enum", "ordinal", "()I"⟩ : MethodName) jdk_37_method_2_code 1 (some .int) :: ws) ({ frames := 0, cells := 0, slots := 0, locals := 0 } : Room)) (fun a U => a = #[(.ref wVisibility_UNDEFINED)] ∧ Z.Warmed39 U.vm ∧ U.heap = h0) (fun _ _ _ _ _ => True) (fun _ U o U' => ∃ v L, o = .returned v ∧ own_Q (.int (0 : Int32)) h0 n0 v U'.heap L ∧ FrameEnd U o U' L ({ frames := 0, cells := 0, slots := 0, locals := 0 } : Room).cells ({ frames := 0, cells := 0, slots := 0, locals := 0 } : Room).slots) := by
  obtain ⟨S_wVisibility_UNDEFINED, E_wVisibility_UNDEFINED, S_wVisibility_VISIBLE, E_wVisibility_VISIBLE, S_wVisibility_USER_MANAGED_VISIBLE, E_wVisibility_USER_MANAGED_VISIBLE, S_wVisibility_NOT_VISIBLE, E_wVisibility_NOT_VISIBLE, S_wVisibility_USER_MANAGED_NOT_VISIBLE, E_wVisibility_USER_MANAGED_NOT_VISIBLE, F_wVisibility_UNDEFINED_ordinal, F_wVisibility_VISIBLE_ordinal, F_wVisibility_USER_MANAGED_VISIBLE_ordinal, F_wVisibility_NOT_VISIBLE_ordinal, F_wVisibility_USER_MANAGED_NOT_VISIBLE_ordinal, ne_wVisibility_UNDEFINED_wVisibility_VISIBLE, ne_wVisibility_UNDEFINED_wVisibility_USER_MANAGED_VISIBLE, ne_wVisibility_UNDEFINED_wVisibility_NOT_VISIBLE, ne_wVisibility_UNDEFINED_wVisibility_USER_MANAGED_NOT_VISIBLE, ne_wVisibility_VISIBLE_wVisibility_USER_MANAGED_VISIBLE, ne_wVisibility_VISIBLE_wVisibility_NOT_VISIBLE, ne_wVisibility_VISIBLE_wVisibility_USER_MANAGED_NOT_VISIBLE, ne_wVisibility_USER_MANAGED_VISIBLE_wVisibility_NOT_VISIBLE, ne_wVisibility_USER_MANAGED_VISIBLE_wVisibility_USER_MANAGED_NOT_VISIBLE, ne_wVisibility_NOT_VISIBLE_wVisibility_USER_MANAGED_NOT_VISIBLE⟩ := id F
  refine MetFree.of_bodySF (plainFor_of_name own_pn_Enum) hisR ?_
  intro p e s m args below meth c s₁ Bd hml0 hP hK
  obtain ⟨rfl, hZ, hh⟩ := hP
  have hx := Bd.exec
  have hby := Bd.bytes
  have hml : c.maxLocals = 1 := hml0
  have hown : s.vm.findClass "java/lang/Enum" = some m.cls := findClass_of_methodNamed Bd.named
  have X0 : Stand p l e ({ frames := 0, cells := 0, slots := 0, locals := 0 } : Room) s m #[(.ref wVisibility_UNDEFINED)] below meth c s₁ [] 0 0 := Stand.of_body Bd
  have e0 : s₁.heap = h0 := by rw [← hh, Bd.state]; rfl
  have N0 := Fr.nil n0
  have pre0 : ∀ t, Steps p.tables e below (s₁.setTop (mkF m 0 #[.val (.ref wVisibility_UNDEFINED)] [])) t → Steps p.tables e below (s₁.setTop (entryFrame m #[(.ref wVisibility_UNDEFINED)] 1)) t := fun t k => castTop (own_ef3_R m wVisibility_UNDEFINED) k
  obtain ⟨T1, X1, e1, st1⟩ := getF X0 hx hZ hown (host := "") (Or.inl (hw _ (List.mem_of_getElem? (i := 20) rfl))) Via.refl e0 F_wVisibility_UNDEFINED_ordinal (g := (mkF m 1 #[.val (.ref wVisibility_UNDEFINED)] [(.ref wVisibility_UNDEFINED)])) rfl rfl (hb hby own_d3_1)
  obtain ⟨fs, hr, hrun, hended, hW, hsame⟩ := X1.leave (v := some (.int (0 : Int32))) (fun h => by rw [Bd.returns] at h; cases h)
  refine ⟨_, _, pre0 _ ?_, hrun, hended, _, _, rfl, ?_, ⟨_, rfl⟩, hW, hsame.mono (by decide) (by decide)⟩
  · show Steps p.tables e below (s₁.setTop (mkF m 0 #[.val (.ref wVisibility_UNDEFINED)] [])) _
    refine XS.aloadN X0.here hx rfl (hb hby own_d3_0) rfl rfl ?_
    show Steps p.tables e below (s₁.setTop (mkF m 1 #[.val (.ref wVisibility_UNDEFINED)] [(.ref wVisibility_UNDEFINED)])) _
    refine st1 _ ?_
    show Steps p.tables e below (T1.setTop (mkF m 4 #[.val (.ref wVisibility_UNDEFINED)] [(.int (0 : Int32))])) _
    exact retI X1 hx Bd.returns (hb hby own_d3_4) hr
  · exact ⟨rfl, N0, e1⟩
theorem own_pd1 : parseMethodDescriptor "()I" = some ⟨[], some .int⟩ := by decide +kernel
theorem own_d2_4 : decode prog_32_method_6_code 4 = .ok (.ireturn, 1) := by decide +kernel
theorem own_pn_Visibility : plainName "io/authlatch/callers/Visibility" = true := by first | (simp [plainName, overriddenIn]; done) | decide +kernel
set_option maxRecDepth 65536 in
set_option maxHeartbeats 40000000 in
theorem own_r2_3 (l : Launch) (Z : State) (a0 : Array Value) (hw : ∀ d ∈ tables_1, d.before a0 Z = true) (ws : List Jvm.Cond) (wVisibility_UNDEFINED : Addr) (wVisibility_VISIBLE : Addr) (wVisibility_USER_MANAGED_VISIBLE : Addr) (wVisibility_NOT_VISIBLE : Addr) (wVisibility_USER_MANAGED_NOT_VISIBLE : Addr) (h0 : Heap) (n0 : Nat) (Z0 : n0 ≤ h0.size) (F : own_W Z h0 wVisibility_UNDEFINED wVisibility_VISIBLE wVisibility_USER_MANAGED_VISIBLE wVisibility_NOT_VISIBLE wVisibility_USER_MANAGED_NOT_VISIBLE)   :
    MetFree l (⟨"io/authlatch/callers/Visibility", "number", "()I"⟩ : MethodName) (head1 (Jvm.Cond.code (⟨"io/authlatch/callers/Visibility", "number", "()I"⟩ : MethodName) prog_32_method_6_code 1 (some .int) :: ws) ({ frames := 1, cells := 0, slots := 0, locals := 12 } : Room)) (fun a U => a = #[(.ref wVisibility_UNDEFINED)] ∧ Z.Warmed39 U.vm ∧ U.heap = h0) (fun _ _ _ _ _ => True) (fun _ U o U' => ∃ v L, o = .returned v ∧ own_Q (.int (0 : Int32)) h0 n0 v U'.heap L ∧ FrameEnd U o U' L ({ frames := 1, cells := 0, slots := 0, locals := 12 } : Room).cells ({ frames := 1, cells := 0, slots := 0, locals := 12 } : Room).slots) := by
  obtain ⟨S_wVisibility_UNDEFINED, E_wVisibility_UNDEFINED, S_wVisibility_VISIBLE, E_wVisibility_VISIBLE, S_wVisibility_USER_MANAGED_VISIBLE, E_wVisibility_USER_MANAGED_VISIBLE, S_wVisibility_NOT_VISIBLE, E_wVisibility_NOT_VISIBLE, S_wVisibility_USER_MANAGED_NOT_VISIBLE, E_wVisibility_USER_MANAGED_NOT_VISIBLE, F_wVisibility_UNDEFINED_ordinal, F_wVisibility_VISIBLE_ordinal, F_wVisibility_USER_MANAGED_VISIBLE_ordinal, F_wVisibility_NOT_VISIBLE_ordinal, F_wVisibility_USER_MANAGED_NOT_VISIBLE_ordinal, ne_wVisibility_UNDEFINED_wVisibility_VISIBLE, ne_wVisibility_UNDEFINED_wVisibility_USER_MANAGED_VISIBLE, ne_wVisibility_UNDEFINED_wVisibility_NOT_VISIBLE, ne_wVisibility_UNDEFINED_wVisibility_USER_MANAGED_NOT_VISIBLE, ne_wVisibility_VISIBLE_wVisibility_USER_MANAGED_VISIBLE, ne_wVisibility_VISIBLE_wVisibility_NOT_VISIBLE, ne_wVisibility_VISIBLE_wVisibility_USER_MANAGED_NOT_VISIBLE, ne_wVisibility_USER_MANAGED_VISIBLE_wVisibility_NOT_VISIBLE, ne_wVisibility_USER_MANAGED_VISIBLE_wVisibility_USER_MANAGED_NOT_VISIBLE, ne_wVisibility_NOT_VISIBLE_wVisibility_USER_MANAGED_NOT_VISIBLE⟩ := id F
  refine MetFree.of_bodySF (plainFor_of_name own_pn_Visibility) hisR ?_
  intro p e s m args below meth c s₁ Bd hml0 hP hK
  obtain ⟨rfl, hZ, hh⟩ := hP
  have hx := Bd.exec
  have hby := Bd.bytes
  have hml : c.maxLocals = 1 := hml0
  have hown : s.vm.findClass "io/authlatch/callers/Visibility" = some m.cls := findClass_of_methodNamed Bd.named
  have X0 : Stand p l e ({ frames := 1, cells := 0, slots := 0, locals := 12 } : Room) s m #[(.ref wVisibility_UNDEFINED)] below meth c s₁ [] 0 0 := Stand.of_body Bd
  have e0 : s₁.heap = h0 := by rw [← hh, Bd.state]; rfl
  have N0 := Fr.nil n0
  have pre0 : ∀ t, Steps p.tables e below (s₁.setTop (mkF m 0 #[.val (.ref wVisibility_UNDEFINED)] [])) t → Steps p.tables e below (s₁.setTop (entryFrame m #[(.ref wVisibility_UNDEFINED)] 1)) t := fun t k => castTop (own_ef2_R m wVisibility_UNDEFINED) k
  obtain ⟨cq1, kq1, q1a, q1b, q1c⟩ := isOf hZ e0 E_wVisibility_UNDEFINED
  obtain ⟨_, _, ⟨T1, L1, k1, n1⟩, -, X1, ⟨Lc1, hQ1, l1, y1, z1⟩, st1⟩ := X0.virtualBackUp hx (x := (⟨"io/authlatch/callers/Visibility", "ordinal", "()I"⟩ : MethodName)) (y := (⟨"java/lang/Enum", "ordinal", "()I"⟩ : MethodName)) (owner := "java/lang/Enum") hown (mvT hZ (hw _ (List.mem_of_getElem? (i := 13) rfl))) (mvT hZ (hw _ (List.mem_of_getElem? (i := 14) rfl))) (mvT hZ (hw _ (List.mem_of_getElem? (i := 15) rfl))) (by decide) (mvT hZ (hw _ (List.mem_of_getElem? (i := 17) rfl))) (mvT hZ (hw _ (List.mem_of_getElem? (i := 16) rfl))) (backOf (W := 0) (own_r3_4 l Z a0 hw [] wVisibility_UNDEFINED wVisibility_VISIBLE wVisibility_USER_MANAGED_VISIBLE wVisibility_NOT_VISIBLE wVisibility_USER_MANAGED_NOT_VISIBLE h0 n0 Z0 F ) hZ (hw _ (List.mem_of_getElem? (i := 19) rfl)) (hw _ (List.mem_of_getElem? (i := 18) rfl)) (by decide) (by decide)) q1a q1c (g := (mkF m 1 #[.val (.ref wVisibility_UNDEFINED)] [(.ref wVisibility_UNDEFINED)])) rfl (by rw [hml]; rfl) (Steps.refl _) (argsL := []) (rest := []) (lenOf own_pd1 rfl) rfl (by show 2 * 0 + _ ≤ _; exact Nat.le_of_eq rfl) (hb hby own_d2_1) (fun _ _ => ⟨rfl, e0, (by decide : 0 + 0 ≤ _), (by decide : 0 + 0 ≤ _)⟩)
  dsimp only [Pt.U, Pt.locs, Pt.cells, Pt.slots] at X1 l1 y1 z1 st1 hQ1
  subst l1 y1 z1
  obtain ⟨rfl, N1q, e1⟩ := hQ1
  have N1 := Fr.app N0 N1q
  obtain ⟨fs, hr, hrun, hended, hW, hsame⟩ := X1.leave (v := some (.int (0 : Int32))) (fun h => by rw [Bd.returns] at h; cases h)
  refine ⟨_, _, pre0 _ ?_, hrun, hended, _, _, rfl, ?_, ⟨_, rfl⟩, hW, hsame.mono (by decide) (by decide)⟩
  · show Steps p.tables e below (s₁.setTop (mkF m 0 #[.val (.ref wVisibility_UNDEFINED)] [])) _
    refine XS.aloadN X0.here hx rfl (hb hby own_d2_0) rfl rfl ?_
    show Steps p.tables e below (s₁.setTop (mkF m 1 #[.val (.ref wVisibility_UNDEFINED)] [(.ref wVisibility_UNDEFINED)])) _
    refine st1.trans ?_
    show Steps p.tables e below (T1.setTop (mkF m 4 #[.val (.ref wVisibility_UNDEFINED)] [(.int (0 : Int32))])) _
    exact retI X1 hx Bd.returns (hb hby own_d2_4) hr
  · exact ⟨rfl, N1, e1⟩
theorem own_ef4_R (m : MethodId) (x0 : Addr) : entryFrame m #[(.ref x0)] 1 = mkF m 0 #[.val (.ref x0)] [] := by first | (simp [entryFrame, mkF, argsToLocals, Value.category]; done) | rfl
theorem own_d4_0 : decode prog_32_method_7_code 0 = .ok (.aload_n 0, 1) := by decide +kernel
theorem own_d4_1 : decode prog_32_method_7_code 1 = .ok (.getstatic 7, 3) := by decide +kernel
theorem own_d4_4 : decode prog_32_method_7_code 4 = .ok (.if_acmp .eq 10, 3) := by decide +kernel
theorem own_d4_7 : decode prog_32_method_7_code 7 = .ok (.aload_n 0, 1) := by decide +kernel
theorem own_d4_8 : decode prog_32_method_7_code 8 = .ok (.getstatic 10, 3) := by decide +kernel
theorem own_d4_11 : decode prog_32_method_7_code 11 = .ok (.if_acmp .ne 7, 3) := by decide +kernel
theorem own_d4_18 : decode prog_32_method_7_code 18 = .ok (.iconst 0, 1) := by decide +kernel
theorem own_d4_19 : decode prog_32_method_7_code 19 = .ok (.ireturn, 1) := by decide +kernel
set_option maxRecDepth 65536 in
set_option maxHeartbeats 40000000 in
theorem own_r4_5 (l : Launch) (Z : State) (a0 : Array Value) (hw : ∀ d ∈ tables_1, d.before a0 Z = true) (ws : List Jvm.Cond) (wVisibility_UNDEFINED : Addr) (wVisibility_VISIBLE : Addr) (wVisibility_USER_MANAGED_VISIBLE : Addr) (wVisibility_NOT_VISIBLE : Addr) (wVisibility_USER_MANAGED_NOT_VISIBLE : Addr) (h0 : Heap) (n0 : Nat) (Z0 : n0 ≤ h0.size) (F : own_W Z h0 wVisibility_UNDEFINED wVisibility_VISIBLE wVisibility_USER_MANAGED_VISIBLE wVisibility_NOT_VISIBLE wVisibility_USER_MANAGED_NOT_VISIBLE)   :
    MetFree l (⟨"io/authlatch/callers/Visibility", "served", "()Z"⟩ : MethodName) (head1 (Jvm.Cond.code (⟨"io/authlatch/callers/Visibility", "served", "()Z"⟩ : MethodName) prog_32_method_7_code 1 (some .boolean) :: ws) ({ frames := 0, cells := 0, slots := 0, locals := 0 } : Room)) (fun a U => a = #[(.ref wVisibility_UNDEFINED)] ∧ Z.Warmed39 U.vm ∧ U.heap = h0) (fun _ _ _ _ _ => True) (fun _ U o U' => ∃ v L, o = .returned v ∧ own_Q (.int (0 : Int32)) h0 n0 v U'.heap L ∧ FrameEnd U o U' L ({ frames := 0, cells := 0, slots := 0, locals := 0 } : Room).cells ({ frames := 0, cells := 0, slots := 0, locals := 0 } : Room).slots) := by
  obtain ⟨S_wVisibility_UNDEFINED, E_wVisibility_UNDEFINED, S_wVisibility_VISIBLE, E_wVisibility_VISIBLE, S_wVisibility_USER_MANAGED_VISIBLE, E_wVisibility_USER_MANAGED_VISIBLE, S_wVisibility_NOT_VISIBLE, E_wVisibility_NOT_VISIBLE, S_wVisibility_USER_MANAGED_NOT_VISIBLE, E_wVisibility_USER_MANAGED_NOT_VISIBLE, F_wVisibility_UNDEFINED_ordinal, F_wVisibility_VISIBLE_ordinal, F_wVisibility_USER_MANAGED_VISIBLE_ordinal, F_wVisibility_NOT_VISIBLE_ordinal, F_wVisibility_USER_MANAGED_NOT_VISIBLE_ordinal, ne_wVisibility_UNDEFINED_wVisibility_VISIBLE, ne_wVisibility_UNDEFINED_wVisibility_USER_MANAGED_VISIBLE, ne_wVisibility_UNDEFINED_wVisibility_NOT_VISIBLE, ne_wVisibility_UNDEFINED_wVisibility_USER_MANAGED_NOT_VISIBLE, ne_wVisibility_VISIBLE_wVisibility_USER_MANAGED_VISIBLE, ne_wVisibility_VISIBLE_wVisibility_NOT_VISIBLE, ne_wVisibility_VISIBLE_wVisibility_USER_MANAGED_NOT_VISIBLE, ne_wVisibility_USER_MANAGED_VISIBLE_wVisibility_NOT_VISIBLE, ne_wVisibility_USER_MANAGED_VISIBLE_wVisibility_USER_MANAGED_NOT_VISIBLE, ne_wVisibility_NOT_VISIBLE_wVisibility_USER_MANAGED_NOT_VISIBLE⟩ := id F
  refine MetFree.of_bodySF (plainFor_of_name own_pn_Visibility) hisR ?_
  intro p e s m args below meth c s₁ Bd hml0 hP hK
  obtain ⟨rfl, hZ, hh⟩ := hP
  have hx := Bd.exec
  have hby := Bd.bytes
  have hml : c.maxLocals = 1 := hml0
  have hown : s.vm.findClass "io/authlatch/callers/Visibility" = some m.cls := findClass_of_methodNamed Bd.named
  have X0 : Stand p l e ({ frames := 0, cells := 0, slots := 0, locals := 0 } : Room) s m #[(.ref wVisibility_UNDEFINED)] below meth c s₁ [] 0 0 := Stand.of_body Bd
  have e0 : s₁.heap = h0 := by rw [← hh, Bd.state]; rfl
  have N0 := Fr.nil n0
  have pre0 : ∀ t, Steps p.tables e below (s₁.setTop (mkF m 0 #[.val (.ref wVisibility_UNDEFINED)] [])) t → Steps p.tables e below (s₁.setTop (entryFrame m #[(.ref wVisibility_UNDEFINED)] 1)) t := fun t k => castTop (own_ef4_R m wVisibility_UNDEFINED) k
  obtain ⟨T1, X1, e1, st1⟩ := getS2 X0 hx hZ hown (host := "") (Or.inl (hw _ (List.mem_of_getElem? (i := 27) rfl))) Via.refl e0 S_wVisibility_VISIBLE (g := (mkF m 1 #[.val (.ref wVisibility_UNDEFINED)] [(.ref wVisibility_UNDEFINED)])) rfl (hb hby own_d4_1)
  obtain ⟨T2, X2, e2, st2⟩ := getS2 X1 hx hZ hown (host := "") (Or.inl (hw _ (List.mem_of_getElem? (i := 29) rfl))) Via.refl e1 S_wVisibility_USER_MANAGED_VISIBLE (g := (mkF m 8 #[.val (.ref wVisibility_UNDEFINED)] [(.ref wVisibility_UNDEFINED)])) rfl (hb hby own_d4_8)
  obtain ⟨fs, hr, hrun, hended, hW, hsame⟩ := X2.leave (v := some (.int (0 : Int32))) (fun h => by rw [Bd.returns] at h; cases h)
  refine ⟨_, _, pre0 _ ?_, hrun, hended, _, _, rfl, ?_, ⟨_, rfl⟩, hW, hsame.mono (by decide) (by decide)⟩
  · show Steps p.tables e below (s₁.setTop (mkF m 0 #[.val (.ref wVisibility_UNDEFINED)] [])) _
    refine XS.aloadN X0.here hx rfl (hb hby own_d4_0) rfl rfl ?_
    show Steps p.tables e below (s₁.setTop (mkF m 1 #[.val (.ref wVisibility_UNDEFINED)] [(.ref wVisibility_UNDEFINED)])) _
    refine st1 _ ?_
    show Steps p.tables e below (T1.setTop (mkF m 4 #[.val (.ref wVisibility_UNDEFINED)] [(.ref wVisibility_VISIBLE), (.ref wVisibility_UNDEFINED)])) _
    refine Jvm.RoadKit.acmp (g := (mkF m 4 #[.val (.ref wVisibility_UNDEFINED)] [(.ref wVisibility_VISIBLE), (.ref wVisibility_UNDEFINED)])) X1 hx rfl rfl rfl (pc0 := 4) (pc' := 7) (same := false) rfl (hb hby own_d4_4) rfl (decide_eq_false fun q => ne_wVisibility_UNDEFINED_wVisibility_VISIBLE (Value.ref.inj q)) (by decide) (by decide) ?_
    show Steps p.tables e below (T1.setTop (mkF m 7 #[.val (.ref wVisibility_UNDEFINED)] [])) _
    refine XS.aloadN X1.here hx rfl (hb hby own_d4_7) rfl rfl ?_
    show Steps p.tables e below (T1.setTop (mkF m 8 #[.val (.ref wVisibility_UNDEFINED)] [(.ref wVisibility_UNDEFINED)])) _
    refine st2 _ ?_
    show Steps p.tables e below (T2.setTop (mkF m 11 #[.val (.ref wVisibility_UNDEFINED)] [(.ref wVisibility_USER_MANAGED_VISIBLE), (.ref wVisibility_UNDEFINED)])) _
    refine Jvm.RoadKit.acmp (g := (mkF m 11 #[.val (.ref wVisibility_UNDEFINED)] [(.ref wVisibility_USER_MANAGED_VISIBLE), (.ref wVisibility_UNDEFINED)])) X2 hx rfl rfl rfl (pc0 := 11) (pc' := 18) (same := false) rfl (hb hby own_d4_11) rfl (decide_eq_false fun q => ne_wVisibility_UNDEFINED_wVisibility_USER_MANAGED_VISIBLE (Value.ref.inj q)) (by decide) (by decide) ?_
    show Steps p.tables e below (T2.setTop (mkF m 18 #[.val (.ref wVisibility_UNDEFINED)] [])) _
    refine XS.iconst X2.here hx rfl (hb hby own_d4_18) ?_
    show Steps p.tables e below (T2.setTop (mkF m 19 #[.val (.ref wVisibility_UNDEFINED)] [(.int (0 : Int32))])) _
    exact retN X2 hx (t := .boolean) Bd.returns (by simp) (hb hby own_d4_19) hr
  · exact ⟨rfl, N0, e2⟩
theorem own_pd2 : parseMethodDescriptor "()Z" = some ⟨[], some .boolean⟩ := by decide +kernel
set_option maxRecDepth 65536 in
set_option maxHeartbeats 40000000 in
theorem own_r0_k0 (l : Launch) (Z : State) (a0 : Array Value) (hw : ∀ d ∈ tables_1, d.before a0 Z = true) (ws : List Jvm.Cond) (wVisibility_UNDEFINED : Addr) (wVisibility_VISIBLE : Addr) (wVisibility_USER_MANAGED_VISIBLE : Addr) (wVisibility_NOT_VISIBLE : Addr) (wVisibility_USER_MANAGED_NOT_VISIBLE : Addr) (h0 : Heap) (n0 : Nat) (Z0 : n0 ≤ h0.size) (F : own_W Z h0 wVisibility_UNDEFINED wVisibility_VISIBLE wVisibility_USER_MANAGED_VISIBLE wVisibility_NOT_VISIBLE wVisibility_USER_MANAGED_NOT_VISIBLE) (i0 : Int32) (hk : ((i0 &&& (2147483647 : Int32)) % (5 : Int32)) = (0 : Int32)) :
    MetFree l x (head1 (Jvm.Cond.code x code maxLocals ret :: ws) room_1) (fun a U => a = #[(.int i0)] ∧ Z.Warmed39 U.vm ∧ U.heap = h0) (fun _ _ _ _ _ => True) (fun _ U o U' => ∃ v L, o = .returned v ∧ own_Q (.int (1 : Int32)) h0 n0 v U'.heap L ∧ FrameEnd U o U' L room_1.cells room_1.slots) := by
  obtain ⟨S_wVisibility_UNDEFINED, E_wVisibility_UNDEFINED, S_wVisibility_VISIBLE, E_wVisibility_VISIBLE, S_wVisibility_USER_MANAGED_VISIBLE, E_wVisibility_USER_MANAGED_VISIBLE, S_wVisibility_NOT_VISIBLE, E_wVisibility_NOT_VISIBLE, S_wVisibility_USER_MANAGED_NOT_VISIBLE, E_wVisibility_USER_MANAGED_NOT_VISIBLE, F_wVisibility_UNDEFINED_ordinal, F_wVisibility_VISIBLE_ordinal, F_wVisibility_USER_MANAGED_VISIBLE_ordinal, F_wVisibility_NOT_VISIBLE_ordinal, F_wVisibility_USER_MANAGED_NOT_VISIBLE_ordinal, ne_wVisibility_UNDEFINED_wVisibility_VISIBLE, ne_wVisibility_UNDEFINED_wVisibility_USER_MANAGED_VISIBLE, ne_wVisibility_UNDEFINED_wVisibility_NOT_VISIBLE, ne_wVisibility_UNDEFINED_wVisibility_USER_MANAGED_NOT_VISIBLE, ne_wVisibility_VISIBLE_wVisibility_USER_MANAGED_VISIBLE, ne_wVisibility_VISIBLE_wVisibility_NOT_VISIBLE, ne_wVisibility_VISIBLE_wVisibility_USER_MANAGED_NOT_VISIBLE, ne_wVisibility_USER_MANAGED_VISIBLE_wVisibility_NOT_VISIBLE, ne_wVisibility_USER_MANAGED_VISIBLE_wVisibility_USER_MANAGED_NOT_VISIBLE, ne_wVisibility_NOT_VISIBLE_wVisibility_USER_MANAGED_NOT_VISIBLE⟩ := id F
  refine MetFree.of_bodySF (plainFor_of_name own_pn_VisibilityServedPinLaw) hisR ?_
  intro p e s m args below meth c s₁ Bd hml0 hP hK
  obtain ⟨rfl, hZ, hh⟩ := hP
  have hx := Bd.exec
  have hby := Bd.bytes
  have hml : c.maxLocals = 4 := hml0
  have hown : s.vm.findClass "io/authlatch/callers/VisibilityServedPinLaw" = some m.cls := findClass_of_methodNamed Bd.named
  have X0 : Stand p l e room_1 s m #[(.int i0)] below meth c s₁ [] 0 0 := Stand.of_body Bd
  have e0 : s₁.heap = h0 := by rw [← hh, Bd.state]; rfl
  have N0 := Fr.nil n0
  have pre0 : ∀ t, Steps p.tables e below (s₁.setTop (mkF m 0 #[.val (.int i0), .unset, .unset, .unset] [])) t → Steps p.tables e below (s₁.setTop (entryFrame m #[(.int i0)] maxLocals)) t := fun t k => castTop (own_ef0_I m i0) k
  obtain ⟨_, _, ⟨T1, L1, k1, n1⟩, -, X1, ⟨Lc1, hQ1, l1, y1, z1⟩, st1⟩ := Jvm.LawKit.callS X0 hx (y := (⟨"io/authlatch/callers/VisibilityServedPinLaw", "pick", "(I)Lio/authlatch/callers/Visibility;"⟩ : MethodName)) hown (mvT hZ (hw _ (List.mem_of_getElem? (i := 1) rfl))) (mvT hZ (hw _ (List.mem_of_getElem? (i := 2) rfl))) (mvT hZ (hw _ (List.mem_of_getElem? (i := 3) rfl))) (mvT hZ (hw _ (List.mem_of_getElem? (i := 4) rfl))) (by decide) (backOf (W := 0) (own_r1_2 l Z a0 hw [] wVisibility_UNDEFINED wVisibility_VISIBLE wVisibility_USER_MANAGED_VISIBLE wVisibility_NOT_VISIBLE wVisibility_USER_MANAGED_NOT_VISIBLE h0 n0 Z0 F ) hZ (hw _ (List.mem_of_getElem? (i := 4) rfl)) (hw _ (List.mem_of_getElem? (i := 3) rfl)) (by decide) (by decide)) (g := (mkF m 8 #[.val (.int i0), .val (.int (0 : Int32)), .unset, .unset] [(.int (0 : Int32))])) rfl (by rw [hml]; rfl) (argsL := [(.int (0 : Int32))]) (rest := []) (lenOf own_pd0 rfl) rfl (by show 2 * 0 + _ ≤ _; exact Nat.le_of_eq rfl) (hb hby at_8) (fun _ _ => ⟨rfl, e0, (by decide : 0 + 0 ≤ _), (by decide : 0 + 0 ≤ _)⟩)
  dsimp only [Pt.U, Pt.locs, Pt.cells, Pt.slots] at X1 l1 y1 z1 st1 hQ1
  subst l1 y1 z1
  obtain ⟨rfl, N1q, e1⟩ := hQ1
  have N1 := Fr.app N0 N1q
  obtain ⟨cq2, kq2, q2a, q2b, q2c⟩ := isOf hZ e1 E_wVisibility_UNDEFINED
  obtain ⟨_, _, ⟨T2, L2, k2, n2⟩, -, X2, ⟨Lc2, hQ2, l2, y2, z2⟩, st2⟩ := X1.virtualBack hx (y := (⟨"io/authlatch/callers/Visibility", "number", "()I"⟩ : MethodName)) (z := (⟨"io/authlatch/callers/Visibility", "number", "()I"⟩ : MethodName)) hown (mvT hZ (hw _ (List.mem_of_getElem? (i := 8) rfl))) (mvT hZ (hw _ (List.mem_of_getElem? (i := 9) rfl))) (notFace_of_selects (args := #[]) (mvT hZ (hw _ (List.mem_of_getElem? (i := 11) rfl)))) (mvT hZ (hw _ (List.mem_of_getElem? (i := 11) rfl))) (mvT hZ (hw _ (List.mem_of_getElem? (i := 10) rfl))) (by decide) (backOf (W := 0) (own_r2_3 l Z a0 hw [] wVisibility_UNDEFINED wVisibility_VISIBLE wVisibility_USER_MANAGED_VISIBLE wVisibility_NOT_VISIBLE wVisibility_USER_MANAGED_NOT_VISIBLE h0 n0 Z0 F ) hZ (hw _ (List.mem_of_getElem? (i := 12) rfl)) (hw _ (List.mem_of_getElem? (i := 6) rfl)) (by decide) (by decide)) q2a q2c (g := (mkF m 29 #[.val (.int i0), .val (.int (0 : Int32)), .val (.ref wVisibility_UNDEFINED), .val (.int (0 : Int32))] [(.ref wVisibility_UNDEFINED)])) rfl (by rw [hml]; rfl) (Steps.refl _) (argsL := []) (rest := []) (lenOf own_pd1 rfl) rfl (by show 2 * 0 + _ ≤ _; exact Nat.le_of_eq rfl) (hb hby at_29) (fun _ _ => ⟨rfl, e1, (by decide : 0 + 0 ≤ _), (by decide : 0 + 0 ≤ _)⟩)
  dsimp only [Pt.U, Pt.locs, Pt.cells, Pt.slots] at X2 l2 y2 z2 st2 hQ2
  subst l2 y2 z2
  obtain ⟨rfl, N2q, e2⟩ := hQ2
  have N2 := Fr.app N1 N2q
  obtain ⟨cq3, kq3, q3a, q3b, q3c⟩ := isOf hZ e2 E_wVisibility_UNDEFINED
  obtain ⟨_, _, ⟨T3, L3, k3, n3⟩, -, X3, ⟨Lc3, hQ3, l3, y3, z3⟩, st3⟩ := X2.virtualBack hx (y := (⟨"io/authlatch/callers/Visibility", "served", "()Z"⟩ : MethodName)) (z := (⟨"io/authlatch/callers/Visibility", "served", "()Z"⟩ : MethodName)) hown (mvT hZ (hw _ (List.mem_of_getElem? (i := 22) rfl))) (mvT hZ (hw _ (List.mem_of_getElem? (i := 23) rfl))) (notFace_of_selects (args := #[]) (mvT hZ (hw _ (List.mem_of_getElem? (i := 25) rfl)))) (mvT hZ (hw _ (List.mem_of_getElem? (i := 25) rfl))) (mvT hZ (hw _ (List.mem_of_getElem? (i := 24) rfl))) (by decide) (backOf (W := 0) (own_r4_5 l Z a0 hw [] wVisibility_UNDEFINED wVisibility_VISIBLE wVisibility_USER_MANAGED_VISIBLE wVisibility_NOT_VISIBLE wVisibility_USER_MANAGED_NOT_VISIBLE h0 n0 Z0 F ) hZ (hw _ (List.mem_of_getElem? (i := 26) rfl)) (hw _ (List.mem_of_getElem? (i := 6) rfl)) (by decide) (by decide)) q3a q3c (g := (mkF m 37 #[.val (.int i0), .val (.int (0 : Int32)), .val (.ref wVisibility_UNDEFINED), .val (.int (0 : Int32))] [(.ref wVisibility_UNDEFINED)])) rfl (by rw [hml]; rfl) (Steps.refl _) (argsL := []) (rest := []) (lenOf own_pd2 rfl) rfl (by show 2 * 0 + _ ≤ _; exact Nat.le_of_eq rfl) (hb hby at_37) (fun _ _ => ⟨rfl, e2, (by decide : 0 + 0 ≤ _), (by decide : 0 + 0 ≤ _)⟩)
  dsimp only [Pt.U, Pt.locs, Pt.cells, Pt.slots] at X3 l3 y3 z3 st3 hQ3
  subst l3 y3 z3
  obtain ⟨rfl, N3q, e3⟩ := hQ3
  have N3 := Fr.app N2 N3q
  obtain ⟨fs, hr, hrun, hended, hW, hsame⟩ := X3.leave (v := some (.int (1 : Int32))) (fun h => by rw [Bd.returns] at h; cases h)
  refine ⟨_, _, pre0 _ ?_, hrun, hended, _, _, rfl, ?_, ⟨_, rfl⟩, hW, hsame.mono (by decide) (by decide)⟩
  · show Steps p.tables e below (s₁.setTop (mkF m 0 #[.val (.int i0), .unset, .unset, .unset] [])) _
    refine XS.iloadN X0.here hx rfl (hb hby at_0) rfl ?_
    show Steps p.tables e below (s₁.setTop (mkF m 1 #[.val (.int i0), .unset, .unset, .unset] [(.int i0)])) _
    refine X0.ldcInt hx hown (mvT hZ (hw _ (List.mem_of_getElem? (i := 0) rfl))) (g := (mkF m 1 #[.val (.int i0), .unset, .unset, .unset] [(.int i0)])) rfl (hb hby at_1) _ ?_
    show Steps p.tables e below (s₁.setTop (mkF m 3 #[.val (.int i0), .unset, .unset, .unset] [(.int (2147483647 : Int32)), (.int i0)])) _
    refine XS.iand X0.here hx rfl (hb hby at_3) rfl ?_
    show Steps p.tables e below (s₁.setTop (mkF m 4 #[.val (.int i0), .unset, .unset, .unset] [(.int (i0 &&& (2147483647 : Int32)))])) _
    refine XS.iconst X0.here hx rfl (hb hby at_4) ?_
    show Steps p.tables e below (s₁.setTop (mkF m 5 #[.val (.int i0), .unset, .unset, .unset] [(.int (5 : Int32)), (.int (i0 &&& (2147483647 : Int32)))])) _
    refine iremM (g := (mkF m 5 #[.val (.int i0), .unset, .unset, .unset] [(.int (5 : Int32)), (.int (i0 &&& (2147483647 : Int32)))])) X0 hx rfl (hb hby at_5) rfl (by decide) ?_
    show Steps p.tables e below (s₁.setTop (mkF m 6 #[.val (.int i0), .unset, .unset, .unset] [(.int ((i0 &&& (2147483647 : Int32)) % (5 : Int32)))])) _
    rw [hk]
    show Steps p.tables e below (s₁.setTop (mkF m 6 #[.val (.int i0), .unset, .unset, .unset] [(.int (0 : Int32))])) _
    refine XS.istoreN X0.here hx rfl (hb hby at_6) rfl (l' := #[.val (.int i0), .val (.int (0 : Int32)), .unset, .unset]) rfl ?_
    show Steps p.tables e below (s₁.setTop (mkF m 7 #[.val (.int i0), .val (.int (0 : Int32)), .unset, .unset] [])) _
    refine XS.iloadN X0.here hx rfl (hb hby at_7) rfl ?_
    show Steps p.tables e below (s₁.setTop (mkF m 8 #[.val (.int i0), .val (.int (0 : Int32)), .unset, .unset] [(.int (0 : Int32))])) _
    refine st1 _ ?_
    show Steps p.tables e below (T1.setTop (mkF m 11 #[.val (.int i0), .val (.int (0 : Int32)), .unset, .unset] [(.ref wVisibility_UNDEFINED)])) _
    refine XS.astoreN X1.here hx rfl (hb hby at_11) rfl rfl (l' := #[.val (.int i0), .val (.int (0 : Int32)), .val (.ref wVisibility_UNDEFINED), .unset]) rfl ?_
    show Steps p.tables e below (T1.setTop (mkF m 12 #[.val (.int i0), .val (.int (0 : Int32)), .val (.ref wVisibility_UNDEFINED), .unset] [])) _
    refine XS.iloadN X1.here hx rfl (hb hby at_12) rfl ?_
    show Steps p.tables e below (T1.setTop (mkF m 13 #[.val (.int i0), .val (.int (0 : Int32)), .val (.ref wVisibility_UNDEFINED), .unset] [(.int (0 : Int32))])) _
    refine XS.iconst X1.here hx rfl (hb hby at_13) ?_
    show Steps p.tables e below (T1.setTop (mkF m 14 #[.val (.int i0), .val (.int (0 : Int32)), .val (.ref wVisibility_UNDEFINED), .unset] [(.int (1 : Int32)), (.int (0 : Int32))])) _
    refine XS.icmpNo X1.here hx rfl (hb hby at_14) rfl (feq (by decide : ¬ ((0 : Int32) = (1 : Int32)))).1 ?_
    show Steps p.tables e below (T1.setTop (mkF m 17 #[.val (.int i0), .val (.int (0 : Int32)), .val (.ref wVisibility_UNDEFINED), .unset] [])) _
    refine XS.iloadN X1.here hx rfl (hb hby at_17) rfl ?_
    show Steps p.tables e below (T1.setTop (mkF m 18 #[.val (.int i0), .val (.int (0 : Int32)), .val (.ref wVisibility_UNDEFINED), .unset] [(.int (0 : Int32))])) _
    refine XS.iconst X1.here hx rfl (hb hby at_18) ?_
    show Steps p.tables e below (T1.setTop (mkF m 19 #[.val (.int i0), .val (.int (0 : Int32)), .val (.ref wVisibility_UNDEFINED), .unset] [(.int (2 : Int32)), (.int (0 : Int32))])) _
    refine XS.icmpYes X1.here hx rfl (pc0 := 19) (pc' := 26) rfl (hb hby at_19) rfl (feq (by decide : ¬ ((0 : Int32) = (2 : Int32)))).2 (by decide) (by decide) ?_
    show Steps p.tables e below (T1.setTop (mkF m 26 #[.val (.int i0), .val (.int (0 : Int32)), .val (.ref wVisibility_UNDEFINED), .unset] [])) _
    refine XS.iconst X1.here hx rfl (hb hby at_26) ?_
    show Steps p.tables e below (T1.setTop (mkF m 27 #[.val (.int i0), .val (.int (0 : Int32)), .val (.ref wVisibility_UNDEFINED), .unset] [(.int (0 : Int32))])) _
    refine XS.istoreN X1.here hx rfl (hb hby at_27) rfl (l' := #[.val (.int i0), .val (.int (0 : Int32)), .val (.ref wVisibility_UNDEFINED), .val (.int (0 : Int32))]) rfl ?_
    show Steps p.tables e below (T1.setTop (mkF m 28 #[.val (.int i0), .val (.int (0 : Int32)), .val (.ref wVisibility_UNDEFINED), .val (.int (0 : Int32))] [])) _
    refine XS.aloadN X1.here hx rfl (hb hby at_28) rfl rfl ?_
    show Steps p.tables e below (T1.setTop (mkF m 29 #[.val (.int i0), .val (.int (0 : Int32)), .val (.ref wVisibility_UNDEFINED), .val (.int (0 : Int32))] [(.ref wVisibility_UNDEFINED)])) _
    refine st2.trans ?_
    show Steps p.tables e below (T2.setTop (mkF m 32 #[.val (.int i0), .val (.int (0 : Int32)), .val (.ref wVisibility_UNDEFINED), .val (.int (0 : Int32))] [(.int (0 : Int32))])) _
    refine XS.iloadN X2.here hx rfl (hb hby at_32) rfl ?_
    show Steps p.tables e below (T2.setTop (mkF m 33 #[.val (.int i0), .val (.int (0 : Int32)), .val (.ref wVisibility_UNDEFINED), .val (.int (0 : Int32))] [(.int (0 : Int32)), (.int (0 : Int32))])) _
    refine XS.icmpNo X2.here hx rfl (hb hby at_33) rfl (teq (by decide : (0 : Int32) = (0 : Int32))).2 ?_
    show Steps p.tables e below (T2.setTop (mkF m 36 #[.val (.int i0), .val (.int (0 : Int32)), .val (.ref wVisibility_UNDEFINED), .val (.int (0 : Int32))] [])) _
    refine XS.aloadN X2.here hx rfl (hb hby at_36) rfl rfl ?_
    show Steps p.tables e below (T2.setTop (mkF m 37 #[.val (.int i0), .val (.int (0 : Int32)), .val (.ref wVisibility_UNDEFINED), .val (.int (0 : Int32))] [(.ref wVisibility_UNDEFINED)])) _
    refine st3.trans ?_
    show Steps p.tables e below (T3.setTop (mkF m 40 #[.val (.int i0), .val (.int (0 : Int32)), .val (.ref wVisibility_UNDEFINED), .val (.int (0 : Int32))] [(.int (0 : Int32))])) _
    refine XS.iloadN X3.here hx rfl (hb hby at_40) rfl ?_
    show Steps p.tables e below (T3.setTop (mkF m 41 #[.val (.int i0), .val (.int (0 : Int32)), .val (.ref wVisibility_UNDEFINED), .val (.int (0 : Int32))] [(.int (0 : Int32)), (.int (0 : Int32))])) _
    refine XS.icmpNo X3.here hx rfl (hb hby at_41) rfl (teq (by decide : (0 : Int32) = (0 : Int32))).2 ?_
    show Steps p.tables e below (T3.setTop (mkF m 44 #[.val (.int i0), .val (.int (0 : Int32)), .val (.ref wVisibility_UNDEFINED), .val (.int (0 : Int32))] [])) _
    refine XS.iconst X3.here hx rfl (hb hby at_44) ?_
    show Steps p.tables e below (T3.setTop (mkF m 45 #[.val (.int i0), .val (.int (0 : Int32)), .val (.ref wVisibility_UNDEFINED), .val (.int (0 : Int32))] [(.int (1 : Int32))])) _
    refine XS.goto X3.here hx rfl (pc0 := 45) (pc' := 49) rfl (hb hby at_45) (by decide) (by decide) ?_
    show Steps p.tables e below (T3.setTop (mkF m 49 #[.val (.int i0), .val (.int (0 : Int32)), .val (.ref wVisibility_UNDEFINED), .val (.int (0 : Int32))] [(.int (1 : Int32))])) _
    exact retN X3 hx (t := .boolean) Bd.returns (by simp) (hb hby at_49) hr
  · exact ⟨rfl, N3, e3⟩
theorem own_d1_8 : decode method_3_code 8 = .ok (.iload_n 0, 1) := by decide +kernel
theorem own_d1_9 : decode method_3_code 9 = .ok (.iconst 1, 1) := by decide +kernel
theorem own_d1_10 : decode method_3_code 10 = .ok (.if_icmp .ne 7, 3) := by decide +kernel
theorem own_d1_13 : decode method_3_code 13 = .ok (.getstatic 28, 3) := by decide +kernel
theorem own_d1_16 : decode method_3_code 16 = .ok (.areturn, 1) := by decide +kernel
set_option maxRecDepth 65536 in
set_option maxHeartbeats 40000000 in
theorem own_r1_7 (l : Launch) (Z : State) (a0 : Array Value) (hw : ∀ d ∈ tables_1, d.before a0 Z = true) (ws : List Jvm.Cond) (wVisibility_UNDEFINED : Addr) (wVisibility_VISIBLE : Addr) (wVisibility_USER_MANAGED_VISIBLE : Addr) (wVisibility_NOT_VISIBLE : Addr) (wVisibility_USER_MANAGED_NOT_VISIBLE : Addr) (h0 : Heap) (n0 : Nat) (Z0 : n0 ≤ h0.size) (F : own_W Z h0 wVisibility_UNDEFINED wVisibility_VISIBLE wVisibility_USER_MANAGED_VISIBLE wVisibility_NOT_VISIBLE wVisibility_USER_MANAGED_NOT_VISIBLE)   :
    MetFree l (⟨"io/authlatch/callers/VisibilityServedPinLaw", "pick", "(I)Lio/authlatch/callers/Visibility;"⟩ : MethodName) (head1 (Jvm.Cond.code (⟨"io/authlatch/callers/VisibilityServedPinLaw", "pick", "(I)Lio/authlatch/callers/Visibility;"⟩ : MethodName) method_3_code 1 (some (.object "io/authlatch/callers/Visibility")) :: ws) ({ frames := 0, cells := 0, slots := 0, locals := 0 } : Room)) (fun a U => a = #[(.int (1 : Int32))] ∧ Z.Warmed39 U.vm ∧ U.heap = h0) (fun _ _ _ _ _ => True) (fun _ U o U' => ∃ v L, o = .returned v ∧ own_Q (.ref wVisibility_VISIBLE) h0 n0 v U'.heap L ∧ FrameEnd U o U' L ({ frames := 0, cells := 0, slots := 0, locals := 0 } : Room).cells ({ frames := 0, cells := 0, slots := 0, locals := 0 } : Room).slots) := by
  obtain ⟨S_wVisibility_UNDEFINED, E_wVisibility_UNDEFINED, S_wVisibility_VISIBLE, E_wVisibility_VISIBLE, S_wVisibility_USER_MANAGED_VISIBLE, E_wVisibility_USER_MANAGED_VISIBLE, S_wVisibility_NOT_VISIBLE, E_wVisibility_NOT_VISIBLE, S_wVisibility_USER_MANAGED_NOT_VISIBLE, E_wVisibility_USER_MANAGED_NOT_VISIBLE, F_wVisibility_UNDEFINED_ordinal, F_wVisibility_VISIBLE_ordinal, F_wVisibility_USER_MANAGED_VISIBLE_ordinal, F_wVisibility_NOT_VISIBLE_ordinal, F_wVisibility_USER_MANAGED_NOT_VISIBLE_ordinal, ne_wVisibility_UNDEFINED_wVisibility_VISIBLE, ne_wVisibility_UNDEFINED_wVisibility_USER_MANAGED_VISIBLE, ne_wVisibility_UNDEFINED_wVisibility_NOT_VISIBLE, ne_wVisibility_UNDEFINED_wVisibility_USER_MANAGED_NOT_VISIBLE, ne_wVisibility_VISIBLE_wVisibility_USER_MANAGED_VISIBLE, ne_wVisibility_VISIBLE_wVisibility_NOT_VISIBLE, ne_wVisibility_VISIBLE_wVisibility_USER_MANAGED_NOT_VISIBLE, ne_wVisibility_USER_MANAGED_VISIBLE_wVisibility_NOT_VISIBLE, ne_wVisibility_USER_MANAGED_VISIBLE_wVisibility_USER_MANAGED_NOT_VISIBLE, ne_wVisibility_NOT_VISIBLE_wVisibility_USER_MANAGED_NOT_VISIBLE⟩ := id F
  refine MetFree.of_bodySF (plainFor_of_name own_pn_VisibilityServedPinLaw) hisR ?_
  intro p e s m args below meth c s₁ Bd hml0 hP hK
  obtain ⟨rfl, hZ, hh⟩ := hP
  have hx := Bd.exec
  have hby := Bd.bytes
  have hml : c.maxLocals = 1 := hml0
  have hown : s.vm.findClass "io/authlatch/callers/VisibilityServedPinLaw" = some m.cls := findClass_of_methodNamed Bd.named
  have X0 : Stand p l e ({ frames := 0, cells := 0, slots := 0, locals := 0 } : Room) s m #[(.int (1 : Int32))] below meth c s₁ [] 0 0 := Stand.of_body Bd
  have e0 : s₁.heap = h0 := by rw [← hh, Bd.state]; rfl
  have N0 := Fr.nil n0
  have pre0 : ∀ t, Steps p.tables e below (s₁.setTop (mkF m 0 #[.val (.int (1 : Int32))] [])) t → Steps p.tables e below (s₁.setTop (entryFrame m #[(.int (1 : Int32))] 1)) t := fun t k => castTop (own_ef1_I m (1 : Int32)) k
  obtain ⟨T1, X1, e1, st1⟩ := getS2 X0 hx hZ hown (host := "") (Or.inl (hw _ (List.mem_of_getElem? (i := 33) rfl))) Via.refl e0 S_wVisibility_VISIBLE (g := (mkF m 13 #[.val (.int (1 : Int32))] [])) rfl (hb hby own_d1_13)
  obtain ⟨fs, hr, hrun, hended, hW, hsame⟩ := X1.leave (v := some (.ref wVisibility_VISIBLE)) (fun h => by rw [Bd.returns] at h; cases h)
  refine ⟨_, _, pre0 _ ?_, hrun, hended, _, _, rfl, ?_, ⟨_, rfl⟩, hW, hsame.mono (by decide) (by decide)⟩
  · show Steps p.tables e below (s₁.setTop (mkF m 0 #[.val (.int (1 : Int32))] [])) _
    refine XS.iloadN X0.here hx rfl (hb hby own_d1_0) rfl ?_
    show Steps p.tables e below (s₁.setTop (mkF m 1 #[.val (.int (1 : Int32))] [(.int (1 : Int32))])) _
    refine XS.ifYes X0.here hx rfl (pc0 := 1) (pc' := 8) rfl (hb hby own_d1_1) rfl ((if0 _ _).trans (feq (by decide : ¬ ((1 : Int32) = (0 : Int32)))).2) (by decide) (by decide) ?_
    show Steps p.tables e below (s₁.setTop (mkF m 8 #[.val (.int (1 : Int32))] [])) _
    refine XS.iloadN X0.here hx rfl (hb hby own_d1_8) rfl ?_
    show Steps p.tables e below (s₁.setTop (mkF m 9 #[.val (.int (1 : Int32))] [(.int (1 : Int32))])) _
    refine XS.iconst X0.here hx rfl (hb hby own_d1_9) ?_
    show Steps p.tables e below (s₁.setTop (mkF m 10 #[.val (.int (1 : Int32))] [(.int (1 : Int32)), (.int (1 : Int32))])) _
    refine XS.icmpNo X0.here hx rfl (hb hby own_d1_10) rfl (teq (by decide : (1 : Int32) = (1 : Int32))).2 ?_
    show Steps p.tables e below (s₁.setTop (mkF m 13 #[.val (.int (1 : Int32))] [])) _
    refine st1 _ ?_
    show Steps p.tables e below (T1.setTop (mkF m 16 #[.val (.int (1 : Int32))] [(.ref wVisibility_VISIBLE)])) _
    jvm_step X1.here [X1.here.top, hx, (hb hby own_d1_16), X1.method', Bd.returns, Value.isRef, FieldType.isReference]
    first | (intro acts; rw [hr _ acts rfl rfl rfl]) | rw [hr _ _ rfl rfl rfl]
    exact Steps.refl _
  · exact ⟨rfl, N0, e1⟩
set_option maxRecDepth 65536 in
set_option maxHeartbeats 40000000 in
theorem own_r3_9 (l : Launch) (Z : State) (a0 : Array Value) (hw : ∀ d ∈ tables_1, d.before a0 Z = true) (ws : List Jvm.Cond) (wVisibility_UNDEFINED : Addr) (wVisibility_VISIBLE : Addr) (wVisibility_USER_MANAGED_VISIBLE : Addr) (wVisibility_NOT_VISIBLE : Addr) (wVisibility_USER_MANAGED_NOT_VISIBLE : Addr) (h0 : Heap) (n0 : Nat) (Z0 : n0 ≤ h0.size) (F : own_W Z h0 wVisibility_UNDEFINED wVisibility_VISIBLE wVisibility_USER_MANAGED_VISIBLE wVisibility_NOT_VISIBLE wVisibility_USER_MANAGED_NOT_VISIBLE)   :
    MetFree l (⟨"java/lang/Enum", "ordinal", "()I"⟩ : MethodName) (head1 (Jvm.Cond.code (⟨"java/lang/Enum", "ordinal", "()I"⟩ : MethodName) jdk_37_method_2_code 1 (some .int) :: ws) ({ frames := 0, cells := 0, slots := 0, locals := 0 } : Room)) (fun a U => a = #[(.ref wVisibility_VISIBLE)] ∧ Z.Warmed39 U.vm ∧ U.heap = h0) (fun _ _ _ _ _ => True) (fun _ U o U' => ∃ v L, o = .returned v ∧ own_Q (.int (1 : Int32)) h0 n0 v U'.heap L ∧ FrameEnd U o U' L ({ frames := 0, cells := 0, slots := 0, locals := 0 } : Room).cells ({ frames := 0, cells := 0, slots := 0, locals := 0 } : Room).slots) := by
  obtain ⟨S_wVisibility_UNDEFINED, E_wVisibility_UNDEFINED, S_wVisibility_VISIBLE, E_wVisibility_VISIBLE, S_wVisibility_USER_MANAGED_VISIBLE, E_wVisibility_USER_MANAGED_VISIBLE, S_wVisibility_NOT_VISIBLE, E_wVisibility_NOT_VISIBLE, S_wVisibility_USER_MANAGED_NOT_VISIBLE, E_wVisibility_USER_MANAGED_NOT_VISIBLE, F_wVisibility_UNDEFINED_ordinal, F_wVisibility_VISIBLE_ordinal, F_wVisibility_USER_MANAGED_VISIBLE_ordinal, F_wVisibility_NOT_VISIBLE_ordinal, F_wVisibility_USER_MANAGED_NOT_VISIBLE_ordinal, ne_wVisibility_UNDEFINED_wVisibility_VISIBLE, ne_wVisibility_UNDEFINED_wVisibility_USER_MANAGED_VISIBLE, ne_wVisibility_UNDEFINED_wVisibility_NOT_VISIBLE, ne_wVisibility_UNDEFINED_wVisibility_USER_MANAGED_NOT_VISIBLE, ne_wVisibility_VISIBLE_wVisibility_USER_MANAGED_VISIBLE, ne_wVisibility_VISIBLE_wVisibility_NOT_VISIBLE, ne_wVisibility_VISIBLE_wVisibility_USER_MANAGED_NOT_VISIBLE, ne_wVisibility_USER_MANAGED_VISIBLE_wVisibility_NOT_VISIBLE, ne_wVisibility_USER_MANAGED_VISIBLE_wVisibility_USER_MANAGED_NOT_VISIBLE, ne_wVisibility_NOT_VISIBLE_wVisibility_USER_MANAGED_NOT_VISIBLE⟩ := id F
  refine MetFree.of_bodySF (plainFor_of_name own_pn_Enum) hisR ?_
  intro p e s m args below meth c s₁ Bd hml0 hP hK
  obtain ⟨rfl, hZ, hh⟩ := hP
  have hx := Bd.exec
  have hby := Bd.bytes
  have hml : c.maxLocals = 1 := hml0
  have hown : s.vm.findClass "java/lang/Enum" = some m.cls := findClass_of_methodNamed Bd.named
  have X0 : Stand p l e ({ frames := 0, cells := 0, slots := 0, locals := 0 } : Room) s m #[(.ref wVisibility_VISIBLE)] below meth c s₁ [] 0 0 := Stand.of_body Bd
  have e0 : s₁.heap = h0 := by rw [← hh, Bd.state]; rfl
  have N0 := Fr.nil n0
  have pre0 : ∀ t, Steps p.tables e below (s₁.setTop (mkF m 0 #[.val (.ref wVisibility_VISIBLE)] [])) t → Steps p.tables e below (s₁.setTop (entryFrame m #[(.ref wVisibility_VISIBLE)] 1)) t := fun t k => castTop (own_ef3_R m wVisibility_VISIBLE) k
  obtain ⟨T1, X1, e1, st1⟩ := getF X0 hx hZ hown (host := "") (Or.inl (hw _ (List.mem_of_getElem? (i := 20) rfl))) Via.refl e0 F_wVisibility_VISIBLE_ordinal (g := (mkF m 1 #[.val (.ref wVisibility_VISIBLE)] [(.ref wVisibility_VISIBLE)])) rfl rfl (hb hby own_d3_1)
  obtain ⟨fs, hr, hrun, hended, hW, hsame⟩ := X1.leave (v := some (.int (1 : Int32))) (fun h => by rw [Bd.returns] at h; cases h)
  refine ⟨_, _, pre0 _ ?_, hrun, hended, _, _, rfl, ?_, ⟨_, rfl⟩, hW, hsame.mono (by decide) (by decide)⟩
  · show Steps p.tables e below (s₁.setTop (mkF m 0 #[.val (.ref wVisibility_VISIBLE)] [])) _
    refine XS.aloadN X0.here hx rfl (hb hby own_d3_0) rfl rfl ?_
    show Steps p.tables e below (s₁.setTop (mkF m 1 #[.val (.ref wVisibility_VISIBLE)] [(.ref wVisibility_VISIBLE)])) _
    refine st1 _ ?_
    show Steps p.tables e below (T1.setTop (mkF m 4 #[.val (.ref wVisibility_VISIBLE)] [(.int (1 : Int32))])) _
    exact retI X1 hx Bd.returns (hb hby own_d3_4) hr
  · exact ⟨rfl, N0, e1⟩
set_option maxRecDepth 65536 in
set_option maxHeartbeats 40000000 in
theorem own_r2_8 (l : Launch) (Z : State) (a0 : Array Value) (hw : ∀ d ∈ tables_1, d.before a0 Z = true) (ws : List Jvm.Cond) (wVisibility_UNDEFINED : Addr) (wVisibility_VISIBLE : Addr) (wVisibility_USER_MANAGED_VISIBLE : Addr) (wVisibility_NOT_VISIBLE : Addr) (wVisibility_USER_MANAGED_NOT_VISIBLE : Addr) (h0 : Heap) (n0 : Nat) (Z0 : n0 ≤ h0.size) (F : own_W Z h0 wVisibility_UNDEFINED wVisibility_VISIBLE wVisibility_USER_MANAGED_VISIBLE wVisibility_NOT_VISIBLE wVisibility_USER_MANAGED_NOT_VISIBLE)   :
    MetFree l (⟨"io/authlatch/callers/Visibility", "number", "()I"⟩ : MethodName) (head1 (Jvm.Cond.code (⟨"io/authlatch/callers/Visibility", "number", "()I"⟩ : MethodName) prog_32_method_6_code 1 (some .int) :: ws) ({ frames := 1, cells := 0, slots := 0, locals := 12 } : Room)) (fun a U => a = #[(.ref wVisibility_VISIBLE)] ∧ Z.Warmed39 U.vm ∧ U.heap = h0) (fun _ _ _ _ _ => True) (fun _ U o U' => ∃ v L, o = .returned v ∧ own_Q (.int (1 : Int32)) h0 n0 v U'.heap L ∧ FrameEnd U o U' L ({ frames := 1, cells := 0, slots := 0, locals := 12 } : Room).cells ({ frames := 1, cells := 0, slots := 0, locals := 12 } : Room).slots) := by
  obtain ⟨S_wVisibility_UNDEFINED, E_wVisibility_UNDEFINED, S_wVisibility_VISIBLE, E_wVisibility_VISIBLE, S_wVisibility_USER_MANAGED_VISIBLE, E_wVisibility_USER_MANAGED_VISIBLE, S_wVisibility_NOT_VISIBLE, E_wVisibility_NOT_VISIBLE, S_wVisibility_USER_MANAGED_NOT_VISIBLE, E_wVisibility_USER_MANAGED_NOT_VISIBLE, F_wVisibility_UNDEFINED_ordinal, F_wVisibility_VISIBLE_ordinal, F_wVisibility_USER_MANAGED_VISIBLE_ordinal, F_wVisibility_NOT_VISIBLE_ordinal, F_wVisibility_USER_MANAGED_NOT_VISIBLE_ordinal, ne_wVisibility_UNDEFINED_wVisibility_VISIBLE, ne_wVisibility_UNDEFINED_wVisibility_USER_MANAGED_VISIBLE, ne_wVisibility_UNDEFINED_wVisibility_NOT_VISIBLE, ne_wVisibility_UNDEFINED_wVisibility_USER_MANAGED_NOT_VISIBLE, ne_wVisibility_VISIBLE_wVisibility_USER_MANAGED_VISIBLE, ne_wVisibility_VISIBLE_wVisibility_NOT_VISIBLE, ne_wVisibility_VISIBLE_wVisibility_USER_MANAGED_NOT_VISIBLE, ne_wVisibility_USER_MANAGED_VISIBLE_wVisibility_NOT_VISIBLE, ne_wVisibility_USER_MANAGED_VISIBLE_wVisibility_USER_MANAGED_NOT_VISIBLE, ne_wVisibility_NOT_VISIBLE_wVisibility_USER_MANAGED_NOT_VISIBLE⟩ := id F
  refine MetFree.of_bodySF (plainFor_of_name own_pn_Visibility) hisR ?_
  intro p e s m args below meth c s₁ Bd hml0 hP hK
  obtain ⟨rfl, hZ, hh⟩ := hP
  have hx := Bd.exec
  have hby := Bd.bytes
  have hml : c.maxLocals = 1 := hml0
  have hown : s.vm.findClass "io/authlatch/callers/Visibility" = some m.cls := findClass_of_methodNamed Bd.named
  have X0 : Stand p l e ({ frames := 1, cells := 0, slots := 0, locals := 12 } : Room) s m #[(.ref wVisibility_VISIBLE)] below meth c s₁ [] 0 0 := Stand.of_body Bd
  have e0 : s₁.heap = h0 := by rw [← hh, Bd.state]; rfl
  have N0 := Fr.nil n0
  have pre0 : ∀ t, Steps p.tables e below (s₁.setTop (mkF m 0 #[.val (.ref wVisibility_VISIBLE)] [])) t → Steps p.tables e below (s₁.setTop (entryFrame m #[(.ref wVisibility_VISIBLE)] 1)) t := fun t k => castTop (own_ef2_R m wVisibility_VISIBLE) k
  obtain ⟨cq1, kq1, q1a, q1b, q1c⟩ := isOf hZ e0 E_wVisibility_VISIBLE
  obtain ⟨_, _, ⟨T1, L1, k1, n1⟩, -, X1, ⟨Lc1, hQ1, l1, y1, z1⟩, st1⟩ := X0.virtualBackUp hx (x := (⟨"io/authlatch/callers/Visibility", "ordinal", "()I"⟩ : MethodName)) (y := (⟨"java/lang/Enum", "ordinal", "()I"⟩ : MethodName)) (owner := "java/lang/Enum") hown (mvT hZ (hw _ (List.mem_of_getElem? (i := 13) rfl))) (mvT hZ (hw _ (List.mem_of_getElem? (i := 14) rfl))) (mvT hZ (hw _ (List.mem_of_getElem? (i := 15) rfl))) (by decide) (mvT hZ (hw _ (List.mem_of_getElem? (i := 17) rfl))) (mvT hZ (hw _ (List.mem_of_getElem? (i := 16) rfl))) (backOf (W := 0) (own_r3_9 l Z a0 hw [] wVisibility_UNDEFINED wVisibility_VISIBLE wVisibility_USER_MANAGED_VISIBLE wVisibility_NOT_VISIBLE wVisibility_USER_MANAGED_NOT_VISIBLE h0 n0 Z0 F ) hZ (hw _ (List.mem_of_getElem? (i := 19) rfl)) (hw _ (List.mem_of_getElem? (i := 18) rfl)) (by decide) (by decide)) q1a q1c (g := (mkF m 1 #[.val (.ref wVisibility_VISIBLE)] [(.ref wVisibility_VISIBLE)])) rfl (by rw [hml]; rfl) (Steps.refl _) (argsL := []) (rest := []) (lenOf own_pd1 rfl) rfl (by show 2 * 0 + _ ≤ _; exact Nat.le_of_eq rfl) (hb hby own_d2_1) (fun _ _ => ⟨rfl, e0, (by decide : 0 + 0 ≤ _), (by decide : 0 + 0 ≤ _)⟩)
  dsimp only [Pt.U, Pt.locs, Pt.cells, Pt.slots] at X1 l1 y1 z1 st1 hQ1
  subst l1 y1 z1
  obtain ⟨rfl, N1q, e1⟩ := hQ1
  have N1 := Fr.app N0 N1q
  obtain ⟨fs, hr, hrun, hended, hW, hsame⟩ := X1.leave (v := some (.int (1 : Int32))) (fun h => by rw [Bd.returns] at h; cases h)
  refine ⟨_, _, pre0 _ ?_, hrun, hended, _, _, rfl, ?_, ⟨_, rfl⟩, hW, hsame.mono (by decide) (by decide)⟩
  · show Steps p.tables e below (s₁.setTop (mkF m 0 #[.val (.ref wVisibility_VISIBLE)] [])) _
    refine XS.aloadN X0.here hx rfl (hb hby own_d2_0) rfl rfl ?_
    show Steps p.tables e below (s₁.setTop (mkF m 1 #[.val (.ref wVisibility_VISIBLE)] [(.ref wVisibility_VISIBLE)])) _
    refine st1.trans ?_
    show Steps p.tables e below (T1.setTop (mkF m 4 #[.val (.ref wVisibility_VISIBLE)] [(.int (1 : Int32))])) _
    exact retI X1 hx Bd.returns (hb hby own_d2_4) hr
  · exact ⟨rfl, N1, e1⟩
theorem own_d4_14 : decode prog_32_method_7_code 14 = .ok (.iconst 1, 1) := by decide +kernel
theorem own_d4_15 : decode prog_32_method_7_code 15 = .ok (.goto 4, 3) := by decide +kernel
set_option maxRecDepth 65536 in
set_option maxHeartbeats 40000000 in
theorem own_r4_10 (l : Launch) (Z : State) (a0 : Array Value) (hw : ∀ d ∈ tables_1, d.before a0 Z = true) (ws : List Jvm.Cond) (wVisibility_UNDEFINED : Addr) (wVisibility_VISIBLE : Addr) (wVisibility_USER_MANAGED_VISIBLE : Addr) (wVisibility_NOT_VISIBLE : Addr) (wVisibility_USER_MANAGED_NOT_VISIBLE : Addr) (h0 : Heap) (n0 : Nat) (Z0 : n0 ≤ h0.size) (F : own_W Z h0 wVisibility_UNDEFINED wVisibility_VISIBLE wVisibility_USER_MANAGED_VISIBLE wVisibility_NOT_VISIBLE wVisibility_USER_MANAGED_NOT_VISIBLE)   :
    MetFree l (⟨"io/authlatch/callers/Visibility", "served", "()Z"⟩ : MethodName) (head1 (Jvm.Cond.code (⟨"io/authlatch/callers/Visibility", "served", "()Z"⟩ : MethodName) prog_32_method_7_code 1 (some .boolean) :: ws) ({ frames := 0, cells := 0, slots := 0, locals := 0 } : Room)) (fun a U => a = #[(.ref wVisibility_VISIBLE)] ∧ Z.Warmed39 U.vm ∧ U.heap = h0) (fun _ _ _ _ _ => True) (fun _ U o U' => ∃ v L, o = .returned v ∧ own_Q (.int (1 : Int32)) h0 n0 v U'.heap L ∧ FrameEnd U o U' L ({ frames := 0, cells := 0, slots := 0, locals := 0 } : Room).cells ({ frames := 0, cells := 0, slots := 0, locals := 0 } : Room).slots) := by
  obtain ⟨S_wVisibility_UNDEFINED, E_wVisibility_UNDEFINED, S_wVisibility_VISIBLE, E_wVisibility_VISIBLE, S_wVisibility_USER_MANAGED_VISIBLE, E_wVisibility_USER_MANAGED_VISIBLE, S_wVisibility_NOT_VISIBLE, E_wVisibility_NOT_VISIBLE, S_wVisibility_USER_MANAGED_NOT_VISIBLE, E_wVisibility_USER_MANAGED_NOT_VISIBLE, F_wVisibility_UNDEFINED_ordinal, F_wVisibility_VISIBLE_ordinal, F_wVisibility_USER_MANAGED_VISIBLE_ordinal, F_wVisibility_NOT_VISIBLE_ordinal, F_wVisibility_USER_MANAGED_NOT_VISIBLE_ordinal, ne_wVisibility_UNDEFINED_wVisibility_VISIBLE, ne_wVisibility_UNDEFINED_wVisibility_USER_MANAGED_VISIBLE, ne_wVisibility_UNDEFINED_wVisibility_NOT_VISIBLE, ne_wVisibility_UNDEFINED_wVisibility_USER_MANAGED_NOT_VISIBLE, ne_wVisibility_VISIBLE_wVisibility_USER_MANAGED_VISIBLE, ne_wVisibility_VISIBLE_wVisibility_NOT_VISIBLE, ne_wVisibility_VISIBLE_wVisibility_USER_MANAGED_NOT_VISIBLE, ne_wVisibility_USER_MANAGED_VISIBLE_wVisibility_NOT_VISIBLE, ne_wVisibility_USER_MANAGED_VISIBLE_wVisibility_USER_MANAGED_NOT_VISIBLE, ne_wVisibility_NOT_VISIBLE_wVisibility_USER_MANAGED_NOT_VISIBLE⟩ := id F
  refine MetFree.of_bodySF (plainFor_of_name own_pn_Visibility) hisR ?_
  intro p e s m args below meth c s₁ Bd hml0 hP hK
  obtain ⟨rfl, hZ, hh⟩ := hP
  have hx := Bd.exec
  have hby := Bd.bytes
  have hml : c.maxLocals = 1 := hml0
  have hown : s.vm.findClass "io/authlatch/callers/Visibility" = some m.cls := findClass_of_methodNamed Bd.named
  have X0 : Stand p l e ({ frames := 0, cells := 0, slots := 0, locals := 0 } : Room) s m #[(.ref wVisibility_VISIBLE)] below meth c s₁ [] 0 0 := Stand.of_body Bd
  have e0 : s₁.heap = h0 := by rw [← hh, Bd.state]; rfl
  have N0 := Fr.nil n0
  have pre0 : ∀ t, Steps p.tables e below (s₁.setTop (mkF m 0 #[.val (.ref wVisibility_VISIBLE)] [])) t → Steps p.tables e below (s₁.setTop (entryFrame m #[(.ref wVisibility_VISIBLE)] 1)) t := fun t k => castTop (own_ef4_R m wVisibility_VISIBLE) k
  obtain ⟨T1, X1, e1, st1⟩ := getS2 X0 hx hZ hown (host := "") (Or.inl (hw _ (List.mem_of_getElem? (i := 27) rfl))) Via.refl e0 S_wVisibility_VISIBLE (g := (mkF m 1 #[.val (.ref wVisibility_VISIBLE)] [(.ref wVisibility_VISIBLE)])) rfl (hb hby own_d4_1)
  obtain ⟨fs, hr, hrun, hended, hW, hsame⟩ := X1.leave (v := some (.int (1 : Int32))) (fun h => by rw [Bd.returns] at h; cases h)
  refine ⟨_, _, pre0 _ ?_, hrun, hended, _, _, rfl, ?_, ⟨_, rfl⟩, hW, hsame.mono (by decide) (by decide)⟩
  · show Steps p.tables e below (s₁.setTop (mkF m 0 #[.val (.ref wVisibility_VISIBLE)] [])) _
    refine XS.aloadN X0.here hx rfl (hb hby own_d4_0) rfl rfl ?_
    show Steps p.tables e below (s₁.setTop (mkF m 1 #[.val (.ref wVisibility_VISIBLE)] [(.ref wVisibility_VISIBLE)])) _
    refine st1 _ ?_
    show Steps p.tables e below (T1.setTop (mkF m 4 #[.val (.ref wVisibility_VISIBLE)] [(.ref wVisibility_VISIBLE), (.ref wVisibility_VISIBLE)])) _
    refine Jvm.RoadKit.acmp (g := (mkF m 4 #[.val (.ref wVisibility_VISIBLE)] [(.ref wVisibility_VISIBLE), (.ref wVisibility_VISIBLE)])) X1 hx rfl rfl rfl (pc0 := 4) (pc' := 14) (same := true) rfl (hb hby own_d4_4) rfl (decide_eq_true rfl) (by decide) (by decide) ?_
    show Steps p.tables e below (T1.setTop (mkF m 14 #[.val (.ref wVisibility_VISIBLE)] [])) _
    refine XS.iconst X1.here hx rfl (hb hby own_d4_14) ?_
    show Steps p.tables e below (T1.setTop (mkF m 15 #[.val (.ref wVisibility_VISIBLE)] [(.int (1 : Int32))])) _
    refine XS.goto X1.here hx rfl (pc0 := 15) (pc' := 19) rfl (hb hby own_d4_15) (by decide) (by decide) ?_
    show Steps p.tables e below (T1.setTop (mkF m 19 #[.val (.ref wVisibility_VISIBLE)] [(.int (1 : Int32))])) _
    exact retN X1 hx (t := .boolean) Bd.returns (by simp) (hb hby own_d4_19) hr
  · exact ⟨rfl, N0, e1⟩
set_option maxRecDepth 65536 in
set_option maxHeartbeats 40000000 in
theorem own_r0_k1 (l : Launch) (Z : State) (a0 : Array Value) (hw : ∀ d ∈ tables_1, d.before a0 Z = true) (ws : List Jvm.Cond) (wVisibility_UNDEFINED : Addr) (wVisibility_VISIBLE : Addr) (wVisibility_USER_MANAGED_VISIBLE : Addr) (wVisibility_NOT_VISIBLE : Addr) (wVisibility_USER_MANAGED_NOT_VISIBLE : Addr) (h0 : Heap) (n0 : Nat) (Z0 : n0 ≤ h0.size) (F : own_W Z h0 wVisibility_UNDEFINED wVisibility_VISIBLE wVisibility_USER_MANAGED_VISIBLE wVisibility_NOT_VISIBLE wVisibility_USER_MANAGED_NOT_VISIBLE) (i0 : Int32) (hk : ((i0 &&& (2147483647 : Int32)) % (5 : Int32)) = (1 : Int32)) :
    MetFree l x (head1 (Jvm.Cond.code x code maxLocals ret :: ws) room_1) (fun a U => a = #[(.int i0)] ∧ Z.Warmed39 U.vm ∧ U.heap = h0) (fun _ _ _ _ _ => True) (fun _ U o U' => ∃ v L, o = .returned v ∧ own_Q (.int (1 : Int32)) h0 n0 v U'.heap L ∧ FrameEnd U o U' L room_1.cells room_1.slots) := by
  obtain ⟨S_wVisibility_UNDEFINED, E_wVisibility_UNDEFINED, S_wVisibility_VISIBLE, E_wVisibility_VISIBLE, S_wVisibility_USER_MANAGED_VISIBLE, E_wVisibility_USER_MANAGED_VISIBLE, S_wVisibility_NOT_VISIBLE, E_wVisibility_NOT_VISIBLE, S_wVisibility_USER_MANAGED_NOT_VISIBLE, E_wVisibility_USER_MANAGED_NOT_VISIBLE, F_wVisibility_UNDEFINED_ordinal, F_wVisibility_VISIBLE_ordinal, F_wVisibility_USER_MANAGED_VISIBLE_ordinal, F_wVisibility_NOT_VISIBLE_ordinal, F_wVisibility_USER_MANAGED_NOT_VISIBLE_ordinal, ne_wVisibility_UNDEFINED_wVisibility_VISIBLE, ne_wVisibility_UNDEFINED_wVisibility_USER_MANAGED_VISIBLE, ne_wVisibility_UNDEFINED_wVisibility_NOT_VISIBLE, ne_wVisibility_UNDEFINED_wVisibility_USER_MANAGED_NOT_VISIBLE, ne_wVisibility_VISIBLE_wVisibility_USER_MANAGED_VISIBLE, ne_wVisibility_VISIBLE_wVisibility_NOT_VISIBLE, ne_wVisibility_VISIBLE_wVisibility_USER_MANAGED_NOT_VISIBLE, ne_wVisibility_USER_MANAGED_VISIBLE_wVisibility_NOT_VISIBLE, ne_wVisibility_USER_MANAGED_VISIBLE_wVisibility_USER_MANAGED_NOT_VISIBLE, ne_wVisibility_NOT_VISIBLE_wVisibility_USER_MANAGED_NOT_VISIBLE⟩ := id F
  refine MetFree.of_bodySF (plainFor_of_name own_pn_VisibilityServedPinLaw) hisR ?_
  intro p e s m args below meth c s₁ Bd hml0 hP hK
  obtain ⟨rfl, hZ, hh⟩ := hP
  have hx := Bd.exec
  have hby := Bd.bytes
  have hml : c.maxLocals = 4 := hml0
  have hown : s.vm.findClass "io/authlatch/callers/VisibilityServedPinLaw" = some m.cls := findClass_of_methodNamed Bd.named
  have X0 : Stand p l e room_1 s m #[(.int i0)] below meth c s₁ [] 0 0 := Stand.of_body Bd
  have e0 : s₁.heap = h0 := by rw [← hh, Bd.state]; rfl
  have N0 := Fr.nil n0
  have pre0 : ∀ t, Steps p.tables e below (s₁.setTop (mkF m 0 #[.val (.int i0), .unset, .unset, .unset] [])) t → Steps p.tables e below (s₁.setTop (entryFrame m #[(.int i0)] maxLocals)) t := fun t k => castTop (own_ef0_I m i0) k
  obtain ⟨_, _, ⟨T1, L1, k1, n1⟩, -, X1, ⟨Lc1, hQ1, l1, y1, z1⟩, st1⟩ := Jvm.LawKit.callS X0 hx (y := (⟨"io/authlatch/callers/VisibilityServedPinLaw", "pick", "(I)Lio/authlatch/callers/Visibility;"⟩ : MethodName)) hown (mvT hZ (hw _ (List.mem_of_getElem? (i := 1) rfl))) (mvT hZ (hw _ (List.mem_of_getElem? (i := 2) rfl))) (mvT hZ (hw _ (List.mem_of_getElem? (i := 3) rfl))) (mvT hZ (hw _ (List.mem_of_getElem? (i := 4) rfl))) (by decide) (backOf (W := 0) (own_r1_7 l Z a0 hw [] wVisibility_UNDEFINED wVisibility_VISIBLE wVisibility_USER_MANAGED_VISIBLE wVisibility_NOT_VISIBLE wVisibility_USER_MANAGED_NOT_VISIBLE h0 n0 Z0 F ) hZ (hw _ (List.mem_of_getElem? (i := 4) rfl)) (hw _ (List.mem_of_getElem? (i := 3) rfl)) (by decide) (by decide)) (g := (mkF m 8 #[.val (.int i0), .val (.int (1 : Int32)), .unset, .unset] [(.int (1 : Int32))])) rfl (by rw [hml]; rfl) (argsL := [(.int (1 : Int32))]) (rest := []) (lenOf own_pd0 rfl) rfl (by show 2 * 0 + _ ≤ _; exact Nat.le_of_eq rfl) (hb hby at_8) (fun _ _ => ⟨rfl, e0, (by decide : 0 + 0 ≤ _), (by decide : 0 + 0 ≤ _)⟩)
  dsimp only [Pt.U, Pt.locs, Pt.cells, Pt.slots] at X1 l1 y1 z1 st1 hQ1
  subst l1 y1 z1
  obtain ⟨rfl, N1q, e1⟩ := hQ1
  have N1 := Fr.app N0 N1q
  obtain ⟨cq2, kq2, q2a, q2b, q2c⟩ := isOf hZ e1 E_wVisibility_VISIBLE
  obtain ⟨_, _, ⟨T2, L2, k2, n2⟩, -, X2, ⟨Lc2, hQ2, l2, y2, z2⟩, st2⟩ := X1.virtualBack hx (y := (⟨"io/authlatch/callers/Visibility", "number", "()I"⟩ : MethodName)) (z := (⟨"io/authlatch/callers/Visibility", "number", "()I"⟩ : MethodName)) hown (mvT hZ (hw _ (List.mem_of_getElem? (i := 8) rfl))) (mvT hZ (hw _ (List.mem_of_getElem? (i := 9) rfl))) (notFace_of_selects (args := #[]) (mvT hZ (hw _ (List.mem_of_getElem? (i := 11) rfl)))) (mvT hZ (hw _ (List.mem_of_getElem? (i := 11) rfl))) (mvT hZ (hw _ (List.mem_of_getElem? (i := 10) rfl))) (by decide) (backOf (W := 0) (own_r2_8 l Z a0 hw [] wVisibility_UNDEFINED wVisibility_VISIBLE wVisibility_USER_MANAGED_VISIBLE wVisibility_NOT_VISIBLE wVisibility_USER_MANAGED_NOT_VISIBLE h0 n0 Z0 F ) hZ (hw _ (List.mem_of_getElem? (i := 12) rfl)) (hw _ (List.mem_of_getElem? (i := 6) rfl)) (by decide) (by decide)) q2a q2c (g := (mkF m 29 #[.val (.int i0), .val (.int (1 : Int32)), .val (.ref wVisibility_VISIBLE), .val (.int (1 : Int32))] [(.ref wVisibility_VISIBLE)])) rfl (by rw [hml]; rfl) (Steps.refl _) (argsL := []) (rest := []) (lenOf own_pd1 rfl) rfl (by show 2 * 0 + _ ≤ _; exact Nat.le_of_eq rfl) (hb hby at_29) (fun _ _ => ⟨rfl, e1, (by decide : 0 + 0 ≤ _), (by decide : 0 + 0 ≤ _)⟩)
  dsimp only [Pt.U, Pt.locs, Pt.cells, Pt.slots] at X2 l2 y2 z2 st2 hQ2
  subst l2 y2 z2
  obtain ⟨rfl, N2q, e2⟩ := hQ2
  have N2 := Fr.app N1 N2q
  obtain ⟨cq3, kq3, q3a, q3b, q3c⟩ := isOf hZ e2 E_wVisibility_VISIBLE
  obtain ⟨_, _, ⟨T3, L3, k3, n3⟩, -, X3, ⟨Lc3, hQ3, l3, y3, z3⟩, st3⟩ := X2.virtualBack hx (y := (⟨"io/authlatch/callers/Visibility", "served", "()Z"⟩ : MethodName)) (z := (⟨"io/authlatch/callers/Visibility", "served", "()Z"⟩ : MethodName)) hown (mvT hZ (hw _ (List.mem_of_getElem? (i := 22) rfl))) (mvT hZ (hw _ (List.mem_of_getElem? (i := 23) rfl))) (notFace_of_selects (args := #[]) (mvT hZ (hw _ (List.mem_of_getElem? (i := 25) rfl)))) (mvT hZ (hw _ (List.mem_of_getElem? (i := 25) rfl))) (mvT hZ (hw _ (List.mem_of_getElem? (i := 24) rfl))) (by decide) (backOf (W := 0) (own_r4_10 l Z a0 hw [] wVisibility_UNDEFINED wVisibility_VISIBLE wVisibility_USER_MANAGED_VISIBLE wVisibility_NOT_VISIBLE wVisibility_USER_MANAGED_NOT_VISIBLE h0 n0 Z0 F ) hZ (hw _ (List.mem_of_getElem? (i := 26) rfl)) (hw _ (List.mem_of_getElem? (i := 6) rfl)) (by decide) (by decide)) q3a q3c (g := (mkF m 37 #[.val (.int i0), .val (.int (1 : Int32)), .val (.ref wVisibility_VISIBLE), .val (.int (1 : Int32))] [(.ref wVisibility_VISIBLE)])) rfl (by rw [hml]; rfl) (Steps.refl _) (argsL := []) (rest := []) (lenOf own_pd2 rfl) rfl (by show 2 * 0 + _ ≤ _; exact Nat.le_of_eq rfl) (hb hby at_37) (fun _ _ => ⟨rfl, e2, (by decide : 0 + 0 ≤ _), (by decide : 0 + 0 ≤ _)⟩)
  dsimp only [Pt.U, Pt.locs, Pt.cells, Pt.slots] at X3 l3 y3 z3 st3 hQ3
  subst l3 y3 z3
  obtain ⟨rfl, N3q, e3⟩ := hQ3
  have N3 := Fr.app N2 N3q
  obtain ⟨fs, hr, hrun, hended, hW, hsame⟩ := X3.leave (v := some (.int (1 : Int32))) (fun h => by rw [Bd.returns] at h; cases h)
  refine ⟨_, _, pre0 _ ?_, hrun, hended, _, _, rfl, ?_, ⟨_, rfl⟩, hW, hsame.mono (by decide) (by decide)⟩
  · show Steps p.tables e below (s₁.setTop (mkF m 0 #[.val (.int i0), .unset, .unset, .unset] [])) _
    refine XS.iloadN X0.here hx rfl (hb hby at_0) rfl ?_
    show Steps p.tables e below (s₁.setTop (mkF m 1 #[.val (.int i0), .unset, .unset, .unset] [(.int i0)])) _
    refine X0.ldcInt hx hown (mvT hZ (hw _ (List.mem_of_getElem? (i := 0) rfl))) (g := (mkF m 1 #[.val (.int i0), .unset, .unset, .unset] [(.int i0)])) rfl (hb hby at_1) _ ?_
    show Steps p.tables e below (s₁.setTop (mkF m 3 #[.val (.int i0), .unset, .unset, .unset] [(.int (2147483647 : Int32)), (.int i0)])) _
    refine XS.iand X0.here hx rfl (hb hby at_3) rfl ?_
    show Steps p.tables e below (s₁.setTop (mkF m 4 #[.val (.int i0), .unset, .unset, .unset] [(.int (i0 &&& (2147483647 : Int32)))])) _
    refine XS.iconst X0.here hx rfl (hb hby at_4) ?_
    show Steps p.tables e below (s₁.setTop (mkF m 5 #[.val (.int i0), .unset, .unset, .unset] [(.int (5 : Int32)), (.int (i0 &&& (2147483647 : Int32)))])) _
    refine iremM (g := (mkF m 5 #[.val (.int i0), .unset, .unset, .unset] [(.int (5 : Int32)), (.int (i0 &&& (2147483647 : Int32)))])) X0 hx rfl (hb hby at_5) rfl (by decide) ?_
    show Steps p.tables e below (s₁.setTop (mkF m 6 #[.val (.int i0), .unset, .unset, .unset] [(.int ((i0 &&& (2147483647 : Int32)) % (5 : Int32)))])) _
    rw [hk]
    show Steps p.tables e below (s₁.setTop (mkF m 6 #[.val (.int i0), .unset, .unset, .unset] [(.int (1 : Int32))])) _
    refine XS.istoreN X0.here hx rfl (hb hby at_6) rfl (l' := #[.val (.int i0), .val (.int (1 : Int32)), .unset, .unset]) rfl ?_
    show Steps p.tables e below (s₁.setTop (mkF m 7 #[.val (.int i0), .val (.int (1 : Int32)), .unset, .unset] [])) _
    refine XS.iloadN X0.here hx rfl (hb hby at_7) rfl ?_
    show Steps p.tables e below (s₁.setTop (mkF m 8 #[.val (.int i0), .val (.int (1 : Int32)), .unset, .unset] [(.int (1 : Int32))])) _
    refine st1 _ ?_
    show Steps p.tables e below (T1.setTop (mkF m 11 #[.val (.int i0), .val (.int (1 : Int32)), .unset, .unset] [(.ref wVisibility_VISIBLE)])) _
    refine XS.astoreN X1.here hx rfl (hb hby at_11) rfl rfl (l' := #[.val (.int i0), .val (.int (1 : Int32)), .val (.ref wVisibility_VISIBLE), .unset]) rfl ?_
    show Steps p.tables e below (T1.setTop (mkF m 12 #[.val (.int i0), .val (.int (1 : Int32)), .val (.ref wVisibility_VISIBLE), .unset] [])) _
    refine XS.iloadN X1.here hx rfl (hb hby at_12) rfl ?_
    show Steps p.tables e below (T1.setTop (mkF m 13 #[.val (.int i0), .val (.int (1 : Int32)), .val (.ref wVisibility_VISIBLE), .unset] [(.int (1 : Int32))])) _
    refine XS.iconst X1.here hx rfl (hb hby at_13) ?_
    show Steps p.tables e below (T1.setTop (mkF m 14 #[.val (.int i0), .val (.int (1 : Int32)), .val (.ref wVisibility_VISIBLE), .unset] [(.int (1 : Int32)), (.int (1 : Int32))])) _
    refine XS.icmpYes X1.here hx rfl (pc0 := 14) (pc' := 22) rfl (hb hby at_14) rfl (teq (by decide : (1 : Int32) = (1 : Int32))).1 (by decide) (by decide) ?_
    show Steps p.tables e below (T1.setTop (mkF m 22 #[.val (.int i0), .val (.int (1 : Int32)), .val (.ref wVisibility_VISIBLE), .unset] [])) _
    refine XS.iconst X1.here hx rfl (hb hby at_22) ?_
    show Steps p.tables e below (T1.setTop (mkF m 23 #[.val (.int i0), .val (.int (1 : Int32)), .val (.ref wVisibility_VISIBLE), .unset] [(.int (1 : Int32))])) _
    refine XS.goto X1.here hx rfl (pc0 := 23) (pc' := 27) rfl (hb hby at_23) (by decide) (by decide) ?_
    show Steps p.tables e below (T1.setTop (mkF m 27 #[.val (.int i0), .val (.int (1 : Int32)), .val (.ref wVisibility_VISIBLE), .unset] [(.int (1 : Int32))])) _
    refine XS.istoreN X1.here hx rfl (hb hby at_27) rfl (l' := #[.val (.int i0), .val (.int (1 : Int32)), .val (.ref wVisibility_VISIBLE), .val (.int (1 : Int32))]) rfl ?_
    show Steps p.tables e below (T1.setTop (mkF m 28 #[.val (.int i0), .val (.int (1 : Int32)), .val (.ref wVisibility_VISIBLE), .val (.int (1 : Int32))] [])) _
    refine XS.aloadN X1.here hx rfl (hb hby at_28) rfl rfl ?_
    show Steps p.tables e below (T1.setTop (mkF m 29 #[.val (.int i0), .val (.int (1 : Int32)), .val (.ref wVisibility_VISIBLE), .val (.int (1 : Int32))] [(.ref wVisibility_VISIBLE)])) _
    refine st2.trans ?_
    show Steps p.tables e below (T2.setTop (mkF m 32 #[.val (.int i0), .val (.int (1 : Int32)), .val (.ref wVisibility_VISIBLE), .val (.int (1 : Int32))] [(.int (1 : Int32))])) _
    refine XS.iloadN X2.here hx rfl (hb hby at_32) rfl ?_
    show Steps p.tables e below (T2.setTop (mkF m 33 #[.val (.int i0), .val (.int (1 : Int32)), .val (.ref wVisibility_VISIBLE), .val (.int (1 : Int32))] [(.int (1 : Int32)), (.int (1 : Int32))])) _
    refine XS.icmpNo X2.here hx rfl (hb hby at_33) rfl (teq (by decide : (1 : Int32) = (1 : Int32))).2 ?_
    show Steps p.tables e below (T2.setTop (mkF m 36 #[.val (.int i0), .val (.int (1 : Int32)), .val (.ref wVisibility_VISIBLE), .val (.int (1 : Int32))] [])) _
    refine XS.aloadN X2.here hx rfl (hb hby at_36) rfl rfl ?_
    show Steps p.tables e below (T2.setTop (mkF m 37 #[.val (.int i0), .val (.int (1 : Int32)), .val (.ref wVisibility_VISIBLE), .val (.int (1 : Int32))] [(.ref wVisibility_VISIBLE)])) _
    refine st3.trans ?_
    show Steps p.tables e below (T3.setTop (mkF m 40 #[.val (.int i0), .val (.int (1 : Int32)), .val (.ref wVisibility_VISIBLE), .val (.int (1 : Int32))] [(.int (1 : Int32))])) _
    refine XS.iloadN X3.here hx rfl (hb hby at_40) rfl ?_
    show Steps p.tables e below (T3.setTop (mkF m 41 #[.val (.int i0), .val (.int (1 : Int32)), .val (.ref wVisibility_VISIBLE), .val (.int (1 : Int32))] [(.int (1 : Int32)), (.int (1 : Int32))])) _
    refine XS.icmpNo X3.here hx rfl (hb hby at_41) rfl (teq (by decide : (1 : Int32) = (1 : Int32))).2 ?_
    show Steps p.tables e below (T3.setTop (mkF m 44 #[.val (.int i0), .val (.int (1 : Int32)), .val (.ref wVisibility_VISIBLE), .val (.int (1 : Int32))] [])) _
    refine XS.iconst X3.here hx rfl (hb hby at_44) ?_
    show Steps p.tables e below (T3.setTop (mkF m 45 #[.val (.int i0), .val (.int (1 : Int32)), .val (.ref wVisibility_VISIBLE), .val (.int (1 : Int32))] [(.int (1 : Int32))])) _
    refine XS.goto X3.here hx rfl (pc0 := 45) (pc' := 49) rfl (hb hby at_45) (by decide) (by decide) ?_
    show Steps p.tables e below (T3.setTop (mkF m 49 #[.val (.int i0), .val (.int (1 : Int32)), .val (.ref wVisibility_VISIBLE), .val (.int (1 : Int32))] [(.int (1 : Int32))])) _
    exact retN X3 hx (t := .boolean) Bd.returns (by simp) (hb hby at_49) hr
  · exact ⟨rfl, N3, e3⟩
theorem own_d1_17 : decode method_3_code 17 = .ok (.iload_n 0, 1) := by decide +kernel
theorem own_d1_18 : decode method_3_code 18 = .ok (.iconst 2, 1) := by decide +kernel
theorem own_d1_19 : decode method_3_code 19 = .ok (.if_icmp .ne 7, 3) := by decide +kernel
theorem own_d1_22 : decode method_3_code 22 = .ok (.getstatic 31, 3) := by decide +kernel
theorem own_d1_25 : decode method_3_code 25 = .ok (.areturn, 1) := by decide +kernel
set_option maxRecDepth 65536 in
set_option maxHeartbeats 40000000 in
theorem own_r1_12 (l : Launch) (Z : State) (a0 : Array Value) (hw : ∀ d ∈ tables_1, d.before a0 Z = true) (ws : List Jvm.Cond) (wVisibility_UNDEFINED : Addr) (wVisibility_VISIBLE : Addr) (wVisibility_USER_MANAGED_VISIBLE : Addr) (wVisibility_NOT_VISIBLE : Addr) (wVisibility_USER_MANAGED_NOT_VISIBLE : Addr) (h0 : Heap) (n0 : Nat) (Z0 : n0 ≤ h0.size) (F : own_W Z h0 wVisibility_UNDEFINED wVisibility_VISIBLE wVisibility_USER_MANAGED_VISIBLE wVisibility_NOT_VISIBLE wVisibility_USER_MANAGED_NOT_VISIBLE)   :
    MetFree l (⟨"io/authlatch/callers/VisibilityServedPinLaw", "pick", "(I)Lio/authlatch/callers/Visibility;"⟩ : MethodName) (head1 (Jvm.Cond.code (⟨"io/authlatch/callers/VisibilityServedPinLaw", "pick", "(I)Lio/authlatch/callers/Visibility;"⟩ : MethodName) method_3_code 1 (some (.object "io/authlatch/callers/Visibility")) :: ws) ({ frames := 0, cells := 0, slots := 0, locals := 0 } : Room)) (fun a U => a = #[(.int (2 : Int32))] ∧ Z.Warmed39 U.vm ∧ U.heap = h0) (fun _ _ _ _ _ => True) (fun _ U o U' => ∃ v L, o = .returned v ∧ own_Q (.ref wVisibility_USER_MANAGED_VISIBLE) h0 n0 v U'.heap L ∧ FrameEnd U o U' L ({ frames := 0, cells := 0, slots := 0, locals := 0 } : Room).cells ({ frames := 0, cells := 0, slots := 0, locals := 0 } : Room).slots) := by
  obtain ⟨S_wVisibility_UNDEFINED, E_wVisibility_UNDEFINED, S_wVisibility_VISIBLE, E_wVisibility_VISIBLE, S_wVisibility_USER_MANAGED_VISIBLE, E_wVisibility_USER_MANAGED_VISIBLE, S_wVisibility_NOT_VISIBLE, E_wVisibility_NOT_VISIBLE, S_wVisibility_USER_MANAGED_NOT_VISIBLE, E_wVisibility_USER_MANAGED_NOT_VISIBLE, F_wVisibility_UNDEFINED_ordinal, F_wVisibility_VISIBLE_ordinal, F_wVisibility_USER_MANAGED_VISIBLE_ordinal, F_wVisibility_NOT_VISIBLE_ordinal, F_wVisibility_USER_MANAGED_NOT_VISIBLE_ordinal, ne_wVisibility_UNDEFINED_wVisibility_VISIBLE, ne_wVisibility_UNDEFINED_wVisibility_USER_MANAGED_VISIBLE, ne_wVisibility_UNDEFINED_wVisibility_NOT_VISIBLE, ne_wVisibility_UNDEFINED_wVisibility_USER_MANAGED_NOT_VISIBLE, ne_wVisibility_VISIBLE_wVisibility_USER_MANAGED_VISIBLE, ne_wVisibility_VISIBLE_wVisibility_NOT_VISIBLE, ne_wVisibility_VISIBLE_wVisibility_USER_MANAGED_NOT_VISIBLE, ne_wVisibility_USER_MANAGED_VISIBLE_wVisibility_NOT_VISIBLE, ne_wVisibility_USER_MANAGED_VISIBLE_wVisibility_USER_MANAGED_NOT_VISIBLE, ne_wVisibility_NOT_VISIBLE_wVisibility_USER_MANAGED_NOT_VISIBLE⟩ := id F
  refine MetFree.of_bodySF (plainFor_of_name own_pn_VisibilityServedPinLaw) hisR ?_
  intro p e s m args below meth c s₁ Bd hml0 hP hK
  obtain ⟨rfl, hZ, hh⟩ := hP
  have hx := Bd.exec
  have hby := Bd.bytes
  have hml : c.maxLocals = 1 := hml0
  have hown : s.vm.findClass "io/authlatch/callers/VisibilityServedPinLaw" = some m.cls := findClass_of_methodNamed Bd.named
  have X0 : Stand p l e ({ frames := 0, cells := 0, slots := 0, locals := 0 } : Room) s m #[(.int (2 : Int32))] below meth c s₁ [] 0 0 := Stand.of_body Bd
  have e0 : s₁.heap = h0 := by rw [← hh, Bd.state]; rfl
  have N0 := Fr.nil n0
  have pre0 : ∀ t, Steps p.tables e below (s₁.setTop (mkF m 0 #[.val (.int (2 : Int32))] [])) t → Steps p.tables e below (s₁.setTop (entryFrame m #[(.int (2 : Int32))] 1)) t := fun t k => castTop (own_ef1_I m (2 : Int32)) k
  obtain ⟨T1, X1, e1, st1⟩ := getS2 X0 hx hZ hown (host := "") (Or.inl (hw _ (List.mem_of_getElem? (i := 36) rfl))) Via.refl e0 S_wVisibility_USER_MANAGED_VISIBLE (g := (mkF m 22 #[.val (.int (2 : Int32))] [])) rfl (hb hby own_d1_22)
  obtain ⟨fs, hr, hrun, hended, hW, hsame⟩ := X1.leave (v := some (.ref wVisibility_USER_MANAGED_VISIBLE)) (fun h => by rw [Bd.returns] at h; cases h)
  refine ⟨_, _, pre0 _ ?_, hrun, hended, _, _, rfl, ?_, ⟨_, rfl⟩, hW, hsame.mono (by decide) (by decide)⟩
  · show Steps p.tables e below (s₁.setTop (mkF m 0 #[.val (.int (2 : Int32))] [])) _
    refine XS.iloadN X0.here hx rfl (hb hby own_d1_0) rfl ?_
    show Steps p.tables e below (s₁.setTop (mkF m 1 #[.val (.int (2 : Int32))] [(.int (2 : Int32))])) _
    refine XS.ifYes X0.here hx rfl (pc0 := 1) (pc' := 8) rfl (hb hby own_d1_1) rfl ((if0 _ _).trans (feq (by decide : ¬ ((2 : Int32) = (0 : Int32)))).2) (by decide) (by decide) ?_
    show Steps p.tables e below (s₁.setTop (mkF m 8 #[.val (.int (2 : Int32))] [])) _
    refine XS.iloadN X0.here hx rfl (hb hby own_d1_8) rfl ?_
    show Steps p.tables e below (s₁.setTop (mkF m 9 #[.val (.int (2 : Int32))] [(.int (2 : Int32))])) _
    refine XS.iconst X0.here hx rfl (hb hby own_d1_9) ?_
    show Steps p.tables e below (s₁.setTop (mkF m 10 #[.val (.int (2 : Int32))] [(.int (1 : Int32)), (.int (2 : Int32))])) _
    refine XS.icmpYes X0.here hx rfl (pc0 := 10) (pc' := 17) rfl (hb hby own_d1_10) rfl (feq (by decide : ¬ ((2 : Int32) = (1 : Int32)))).2 (by decide) (by decide) ?_
    show Steps p.tables e below (s₁.setTop (mkF m 17 #[.val (.int (2 : Int32))] [])) _
    refine XS.iloadN X0.here hx rfl (hb hby own_d1_17) rfl ?_
    show Steps p.tables e below (s₁.setTop (mkF m 18 #[.val (.int (2 : Int32))] [(.int (2 : Int32))])) _
    refine XS.iconst X0.here hx rfl (hb hby own_d1_18) ?_
    show Steps p.tables e below (s₁.setTop (mkF m 19 #[.val (.int (2 : Int32))] [(.int (2 : Int32)), (.int (2 : Int32))])) _
    refine XS.icmpNo X0.here hx rfl (hb hby own_d1_19) rfl (teq (by decide : (2 : Int32) = (2 : Int32))).2 ?_
    show Steps p.tables e below (s₁.setTop (mkF m 22 #[.val (.int (2 : Int32))] [])) _
    refine st1 _ ?_
    show Steps p.tables e below (T1.setTop (mkF m 25 #[.val (.int (2 : Int32))] [(.ref wVisibility_USER_MANAGED_VISIBLE)])) _
    jvm_step X1.here [X1.here.top, hx, (hb hby own_d1_25), X1.method', Bd.returns, Value.isRef, FieldType.isReference]
    first | (intro acts; rw [hr _ acts rfl rfl rfl]) | rw [hr _ _ rfl rfl rfl]
    exact Steps.refl _
  · exact ⟨rfl, N0, e1⟩
set_option maxRecDepth 65536 in
set_option maxHeartbeats 40000000 in
theorem own_r3_14 (l : Launch) (Z : State) (a0 : Array Value) (hw : ∀ d ∈ tables_1, d.before a0 Z = true) (ws : List Jvm.Cond) (wVisibility_UNDEFINED : Addr) (wVisibility_VISIBLE : Addr) (wVisibility_USER_MANAGED_VISIBLE : Addr) (wVisibility_NOT_VISIBLE : Addr) (wVisibility_USER_MANAGED_NOT_VISIBLE : Addr) (h0 : Heap) (n0 : Nat) (Z0 : n0 ≤ h0.size) (F : own_W Z h0 wVisibility_UNDEFINED wVisibility_VISIBLE wVisibility_USER_MANAGED_VISIBLE wVisibility_NOT_VISIBLE wVisibility_USER_MANAGED_NOT_VISIBLE)   :
    MetFree l (⟨"java/lang/Enum", "ordinal", "()I"⟩ : MethodName) (head1 (Jvm.Cond.code (⟨"java/lang/Enum", "ordinal", "()I"⟩ : MethodName) jdk_37_method_2_code 1 (some .int) :: ws) ({ frames := 0, cells := 0, slots := 0, locals := 0 } : Room)) (fun a U => a = #[(.ref wVisibility_USER_MANAGED_VISIBLE)] ∧ Z.Warmed39 U.vm ∧ U.heap = h0) (fun _ _ _ _ _ => True) (fun _ U o U' => ∃ v L, o = .returned v ∧ own_Q (.int (2 : Int32)) h0 n0 v U'.heap L ∧ FrameEnd U o U' L ({ frames := 0, cells := 0, slots := 0, locals := 0 } : Room).cells ({ frames := 0, cells := 0, slots := 0, locals := 0 } : Room).slots) := by
  obtain ⟨S_wVisibility_UNDEFINED, E_wVisibility_UNDEFINED, S_wVisibility_VISIBLE, E_wVisibility_VISIBLE, S_wVisibility_USER_MANAGED_VISIBLE, E_wVisibility_USER_MANAGED_VISIBLE, S_wVisibility_NOT_VISIBLE, E_wVisibility_NOT_VISIBLE, S_wVisibility_USER_MANAGED_NOT_VISIBLE, E_wVisibility_USER_MANAGED_NOT_VISIBLE, F_wVisibility_UNDEFINED_ordinal, F_wVisibility_VISIBLE_ordinal, F_wVisibility_USER_MANAGED_VISIBLE_ordinal, F_wVisibility_NOT_VISIBLE_ordinal, F_wVisibility_USER_MANAGED_NOT_VISIBLE_ordinal, ne_wVisibility_UNDEFINED_wVisibility_VISIBLE, ne_wVisibility_UNDEFINED_wVisibility_USER_MANAGED_VISIBLE, ne_wVisibility_UNDEFINED_wVisibility_NOT_VISIBLE, ne_wVisibility_UNDEFINED_wVisibility_USER_MANAGED_NOT_VISIBLE, ne_wVisibility_VISIBLE_wVisibility_USER_MANAGED_VISIBLE, ne_wVisibility_VISIBLE_wVisibility_NOT_VISIBLE, ne_wVisibility_VISIBLE_wVisibility_USER_MANAGED_NOT_VISIBLE, ne_wVisibility_USER_MANAGED_VISIBLE_wVisibility_NOT_VISIBLE, ne_wVisibility_USER_MANAGED_VISIBLE_wVisibility_USER_MANAGED_NOT_VISIBLE, ne_wVisibility_NOT_VISIBLE_wVisibility_USER_MANAGED_NOT_VISIBLE⟩ := id F
  refine MetFree.of_bodySF (plainFor_of_name own_pn_Enum) hisR ?_
  intro p e s m args below meth c s₁ Bd hml0 hP hK
  obtain ⟨rfl, hZ, hh⟩ := hP
  have hx := Bd.exec
  have hby := Bd.bytes
  have hml : c.maxLocals = 1 := hml0
  have hown : s.vm.findClass "java/lang/Enum" = some m.cls := findClass_of_methodNamed Bd.named
  have X0 : Stand p l e ({ frames := 0, cells := 0, slots := 0, locals := 0 } : Room) s m #[(.ref wVisibility_USER_MANAGED_VISIBLE)] below meth c s₁ [] 0 0 := Stand.of_body Bd
  have e0 : s₁.heap = h0 := by rw [← hh, Bd.state]; rfl
  have N0 := Fr.nil n0
  have pre0 : ∀ t, Steps p.tables e below (s₁.setTop (mkF m 0 #[.val (.ref wVisibility_USER_MANAGED_VISIBLE)] [])) t → Steps p.tables e below (s₁.setTop (entryFrame m #[(.ref wVisibility_USER_MANAGED_VISIBLE)] 1)) t := fun t k => castTop (own_ef3_R m wVisibility_USER_MANAGED_VISIBLE) k
  obtain ⟨T1, X1, e1, st1⟩ := getF X0 hx hZ hown (host := "") (Or.inl (hw _ (List.mem_of_getElem? (i := 20) rfl))) Via.refl e0 F_wVisibility_USER_MANAGED_VISIBLE_ordinal (g := (mkF m 1 #[.val (.ref wVisibility_USER_MANAGED_VISIBLE)] [(.ref wVisibility_USER_MANAGED_VISIBLE)])) rfl rfl (hb hby own_d3_1)
  obtain ⟨fs, hr, hrun, hended, hW, hsame⟩ := X1.leave (v := some (.int (2 : Int32))) (fun h => by rw [Bd.returns] at h; cases h)
  refine ⟨_, _, pre0 _ ?_, hrun, hended, _, _, rfl, ?_, ⟨_, rfl⟩, hW, hsame.mono (by decide) (by decide)⟩
  · show Steps p.tables e below (s₁.setTop (mkF m 0 #[.val (.ref wVisibility_USER_MANAGED_VISIBLE)] [])) _
    refine XS.aloadN X0.here hx rfl (hb hby own_d3_0) rfl rfl ?_
    show Steps p.tables e below (s₁.setTop (mkF m 1 #[.val (.ref wVisibility_USER_MANAGED_VISIBLE)] [(.ref wVisibility_USER_MANAGED_VISIBLE)])) _
    refine st1 _ ?_
    show Steps p.tables e below (T1.setTop (mkF m 4 #[.val (.ref wVisibility_USER_MANAGED_VISIBLE)] [(.int (2 : Int32))])) _
    exact retI X1 hx Bd.returns (hb hby own_d3_4) hr
  · exact ⟨rfl, N0, e1⟩
set_option maxRecDepth 65536 in
set_option maxHeartbeats 40000000 in
theorem own_r2_13 (l : Launch) (Z : State) (a0 : Array Value) (hw : ∀ d ∈ tables_1, d.before a0 Z = true) (ws : List Jvm.Cond) (wVisibility_UNDEFINED : Addr) (wVisibility_VISIBLE : Addr) (wVisibility_USER_MANAGED_VISIBLE : Addr) (wVisibility_NOT_VISIBLE : Addr) (wVisibility_USER_MANAGED_NOT_VISIBLE : Addr) (h0 : Heap) (n0 : Nat) (Z0 : n0 ≤ h0.size) (F : own_W Z h0 wVisibility_UNDEFINED wVisibility_VISIBLE wVisibility_USER_MANAGED_VISIBLE wVisibility_NOT_VISIBLE wVisibility_USER_MANAGED_NOT_VISIBLE)   :
    MetFree l (⟨"io/authlatch/callers/Visibility", "number", "()I"⟩ : MethodName) (head1 (Jvm.Cond.code (⟨"io/authlatch/callers/Visibility", "number", "()I"⟩ : MethodName) prog_32_method_6_code 1 (some .int) :: ws) ({ frames := 1, cells := 0, slots := 0, locals := 12 } : Room)) (fun a U => a = #[(.ref wVisibility_USER_MANAGED_VISIBLE)] ∧ Z.Warmed39 U.vm ∧ U.heap = h0) (fun _ _ _ _ _ => True) (fun _ U o U' => ∃ v L, o = .returned v ∧ own_Q (.int (2 : Int32)) h0 n0 v U'.heap L ∧ FrameEnd U o U' L ({ frames := 1, cells := 0, slots := 0, locals := 12 } : Room).cells ({ frames := 1, cells := 0, slots := 0, locals := 12 } : Room).slots) := by
  obtain ⟨S_wVisibility_UNDEFINED, E_wVisibility_UNDEFINED, S_wVisibility_VISIBLE, E_wVisibility_VISIBLE, S_wVisibility_USER_MANAGED_VISIBLE, E_wVisibility_USER_MANAGED_VISIBLE, S_wVisibility_NOT_VISIBLE, E_wVisibility_NOT_VISIBLE, S_wVisibility_USER_MANAGED_NOT_VISIBLE, E_wVisibility_USER_MANAGED_NOT_VISIBLE, F_wVisibility_UNDEFINED_ordinal, F_wVisibility_VISIBLE_ordinal, F_wVisibility_USER_MANAGED_VISIBLE_ordinal, F_wVisibility_NOT_VISIBLE_ordinal, F_wVisibility_USER_MANAGED_NOT_VISIBLE_ordinal, ne_wVisibility_UNDEFINED_wVisibility_VISIBLE, ne_wVisibility_UNDEFINED_wVisibility_USER_MANAGED_VISIBLE, ne_wVisibility_UNDEFINED_wVisibility_NOT_VISIBLE, ne_wVisibility_UNDEFINED_wVisibility_USER_MANAGED_NOT_VISIBLE, ne_wVisibility_VISIBLE_wVisibility_USER_MANAGED_VISIBLE, ne_wVisibility_VISIBLE_wVisibility_NOT_VISIBLE, ne_wVisibility_VISIBLE_wVisibility_USER_MANAGED_NOT_VISIBLE, ne_wVisibility_USER_MANAGED_VISIBLE_wVisibility_NOT_VISIBLE, ne_wVisibility_USER_MANAGED_VISIBLE_wVisibility_USER_MANAGED_NOT_VISIBLE, ne_wVisibility_NOT_VISIBLE_wVisibility_USER_MANAGED_NOT_VISIBLE⟩ := id F
  refine MetFree.of_bodySF (plainFor_of_name own_pn_Visibility) hisR ?_
  intro p e s m args below meth c s₁ Bd hml0 hP hK
  obtain ⟨rfl, hZ, hh⟩ := hP
  have hx := Bd.exec
  have hby := Bd.bytes
  have hml : c.maxLocals = 1 := hml0
  have hown : s.vm.findClass "io/authlatch/callers/Visibility" = some m.cls := findClass_of_methodNamed Bd.named
  have X0 : Stand p l e ({ frames := 1, cells := 0, slots := 0, locals := 12 } : Room) s m #[(.ref wVisibility_USER_MANAGED_VISIBLE)] below meth c s₁ [] 0 0 := Stand.of_body Bd
  have e0 : s₁.heap = h0 := by rw [← hh, Bd.state]; rfl
  have N0 := Fr.nil n0
  have pre0 : ∀ t, Steps p.tables e below (s₁.setTop (mkF m 0 #[.val (.ref wVisibility_USER_MANAGED_VISIBLE)] [])) t → Steps p.tables e below (s₁.setTop (entryFrame m #[(.ref wVisibility_USER_MANAGED_VISIBLE)] 1)) t := fun t k => castTop (own_ef2_R m wVisibility_USER_MANAGED_VISIBLE) k
  obtain ⟨cq1, kq1, q1a, q1b, q1c⟩ := isOf hZ e0 E_wVisibility_USER_MANAGED_VISIBLE
  obtain ⟨_, _, ⟨T1, L1, k1, n1⟩, -, X1, ⟨Lc1, hQ1, l1, y1, z1⟩, st1⟩ := X0.virtualBackUp hx (x := (⟨"io/authlatch/callers/Visibility", "ordinal", "()I"⟩ : MethodName)) (y := (⟨"java/lang/Enum", "ordinal", "()I"⟩ : MethodName)) (owner := "java/lang/Enum") hown (mvT hZ (hw _ (List.mem_of_getElem? (i := 13) rfl))) (mvT hZ (hw _ (List.mem_of_getElem? (i := 14) rfl))) (mvT hZ (hw _ (List.mem_of_getElem? (i := 15) rfl))) (by decide) (mvT hZ (hw _ (List.mem_of_getElem? (i := 17) rfl))) (mvT hZ (hw _ (List.mem_of_getElem? (i := 16) rfl))) (backOf (W := 0) (own_r3_14 l Z a0 hw [] wVisibility_UNDEFINED wVisibility_VISIBLE wVisibility_USER_MANAGED_VISIBLE wVisibility_NOT_VISIBLE wVisibility_USER_MANAGED_NOT_VISIBLE h0 n0 Z0 F ) hZ (hw _ (List.mem_of_getElem? (i := 19) rfl)) (hw _ (List.mem_of_getElem? (i := 18) rfl)) (by decide) (by decide)) q1a q1c (g := (mkF m 1 #[.val (.ref wVisibility_USER_MANAGED_VISIBLE)] [(.ref wVisibility_USER_MANAGED_VISIBLE)])) rfl (by rw [hml]; rfl) (Steps.refl _) (argsL := []) (rest := []) (lenOf own_pd1 rfl) rfl (by show 2 * 0 + _ ≤ _; exact Nat.le_of_eq rfl) (hb hby own_d2_1) (fun _ _ => ⟨rfl, e0, (by decide : 0 + 0 ≤ _), (by decide : 0 + 0 ≤ _)⟩)
  dsimp only [Pt.U, Pt.locs, Pt.cells, Pt.slots] at X1 l1 y1 z1 st1 hQ1
  subst l1 y1 z1
  obtain ⟨rfl, N1q, e1⟩ := hQ1
  have N1 := Fr.app N0 N1q
  obtain ⟨fs, hr, hrun, hended, hW, hsame⟩ := X1.leave (v := some (.int (2 : Int32))) (fun h => by rw [Bd.returns] at h; cases h)
  refine ⟨_, _, pre0 _ ?_, hrun, hended, _, _, rfl, ?_, ⟨_, rfl⟩, hW, hsame.mono (by decide) (by decide)⟩
  · show Steps p.tables e below (s₁.setTop (mkF m 0 #[.val (.ref wVisibility_USER_MANAGED_VISIBLE)] [])) _
    refine XS.aloadN X0.here hx rfl (hb hby own_d2_0) rfl rfl ?_
    show Steps p.tables e below (s₁.setTop (mkF m 1 #[.val (.ref wVisibility_USER_MANAGED_VISIBLE)] [(.ref wVisibility_USER_MANAGED_VISIBLE)])) _
    refine st1.trans ?_
    show Steps p.tables e below (T1.setTop (mkF m 4 #[.val (.ref wVisibility_USER_MANAGED_VISIBLE)] [(.int (2 : Int32))])) _
    exact retI X1 hx Bd.returns (hb hby own_d2_4) hr
  · exact ⟨rfl, N1, e1⟩
set_option maxRecDepth 65536 in
set_option maxHeartbeats 40000000 in
theorem own_r4_15 (l : Launch) (Z : State) (a0 : Array Value) (hw : ∀ d ∈ tables_1, d.before a0 Z = true) (ws : List Jvm.Cond) (wVisibility_UNDEFINED : Addr) (wVisibility_VISIBLE : Addr) (wVisibility_USER_MANAGED_VISIBLE : Addr) (wVisibility_NOT_VISIBLE : Addr) (wVisibility_USER_MANAGED_NOT_VISIBLE : Addr) (h0 : Heap) (n0 : Nat) (Z0 : n0 ≤ h0.size) (F : own_W Z h0 wVisibility_UNDEFINED wVisibility_VISIBLE wVisibility_USER_MANAGED_VISIBLE wVisibility_NOT_VISIBLE wVisibility_USER_MANAGED_NOT_VISIBLE)   :
    MetFree l (⟨"io/authlatch/callers/Visibility", "served", "()Z"⟩ : MethodName) (head1 (Jvm.Cond.code (⟨"io/authlatch/callers/Visibility", "served", "()Z"⟩ : MethodName) prog_32_method_7_code 1 (some .boolean) :: ws) ({ frames := 0, cells := 0, slots := 0, locals := 0 } : Room)) (fun a U => a = #[(.ref wVisibility_USER_MANAGED_VISIBLE)] ∧ Z.Warmed39 U.vm ∧ U.heap = h0) (fun _ _ _ _ _ => True) (fun _ U o U' => ∃ v L, o = .returned v ∧ own_Q (.int (1 : Int32)) h0 n0 v U'.heap L ∧ FrameEnd U o U' L ({ frames := 0, cells := 0, slots := 0, locals := 0 } : Room).cells ({ frames := 0, cells := 0, slots := 0, locals := 0 } : Room).slots) := by
  obtain ⟨S_wVisibility_UNDEFINED, E_wVisibility_UNDEFINED, S_wVisibility_VISIBLE, E_wVisibility_VISIBLE, S_wVisibility_USER_MANAGED_VISIBLE, E_wVisibility_USER_MANAGED_VISIBLE, S_wVisibility_NOT_VISIBLE, E_wVisibility_NOT_VISIBLE, S_wVisibility_USER_MANAGED_NOT_VISIBLE, E_wVisibility_USER_MANAGED_NOT_VISIBLE, F_wVisibility_UNDEFINED_ordinal, F_wVisibility_VISIBLE_ordinal, F_wVisibility_USER_MANAGED_VISIBLE_ordinal, F_wVisibility_NOT_VISIBLE_ordinal, F_wVisibility_USER_MANAGED_NOT_VISIBLE_ordinal, ne_wVisibility_UNDEFINED_wVisibility_VISIBLE, ne_wVisibility_UNDEFINED_wVisibility_USER_MANAGED_VISIBLE, ne_wVisibility_UNDEFINED_wVisibility_NOT_VISIBLE, ne_wVisibility_UNDEFINED_wVisibility_USER_MANAGED_NOT_VISIBLE, ne_wVisibility_VISIBLE_wVisibility_USER_MANAGED_VISIBLE, ne_wVisibility_VISIBLE_wVisibility_NOT_VISIBLE, ne_wVisibility_VISIBLE_wVisibility_USER_MANAGED_NOT_VISIBLE, ne_wVisibility_USER_MANAGED_VISIBLE_wVisibility_NOT_VISIBLE, ne_wVisibility_USER_MANAGED_VISIBLE_wVisibility_USER_MANAGED_NOT_VISIBLE, ne_wVisibility_NOT_VISIBLE_wVisibility_USER_MANAGED_NOT_VISIBLE⟩ := id F
  refine MetFree.of_bodySF (plainFor_of_name own_pn_Visibility) hisR ?_
  intro p e s m args below meth c s₁ Bd hml0 hP hK
  obtain ⟨rfl, hZ, hh⟩ := hP
  have hx := Bd.exec
  have hby := Bd.bytes
  have hml : c.maxLocals = 1 := hml0
  have hown : s.vm.findClass "io/authlatch/callers/Visibility" = some m.cls := findClass_of_methodNamed Bd.named
  have X0 : Stand p l e ({ frames := 0, cells := 0, slots := 0, locals := 0 } : Room) s m #[(.ref wVisibility_USER_MANAGED_VISIBLE)] below meth c s₁ [] 0 0 := Stand.of_body Bd
  have e0 : s₁.heap = h0 := by rw [← hh, Bd.state]; rfl
  have N0 := Fr.nil n0
  have pre0 : ∀ t, Steps p.tables e below (s₁.setTop (mkF m 0 #[.val (.ref wVisibility_USER_MANAGED_VISIBLE)] [])) t → Steps p.tables e below (s₁.setTop (entryFrame m #[(.ref wVisibility_USER_MANAGED_VISIBLE)] 1)) t := fun t k => castTop (own_ef4_R m wVisibility_USER_MANAGED_VISIBLE) k
  obtain ⟨T1, X1, e1, st1⟩ := getS2 X0 hx hZ hown (host := "") (Or.inl (hw _ (List.mem_of_getElem? (i := 27) rfl))) Via.refl e0 S_wVisibility_VISIBLE (g := (mkF m 1 #[.val (.ref wVisibility_USER_MANAGED_VISIBLE)] [(.ref wVisibility_USER_MANAGED_VISIBLE)])) rfl (hb hby own_d4_1)
  obtain ⟨T2, X2, e2, st2⟩ := getS2 X1 hx hZ hown (host := "") (Or.inl (hw _ (List.mem_of_getElem? (i := 29) rfl))) Via.refl e1 S_wVisibility_USER_MANAGED_VISIBLE (g := (mkF m 8 #[.val (.ref wVisibility_USER_MANAGED_VISIBLE)] [(.ref wVisibility_USER_MANAGED_VISIBLE)])) rfl (hb hby own_d4_8)
  obtain ⟨fs, hr, hrun, hended, hW, hsame⟩ := X2.leave (v := some (.int (1 : Int32))) (fun h => by rw [Bd.returns] at h; cases h)
  refine ⟨_, _, pre0 _ ?_, hrun, hended, _, _, rfl, ?_, ⟨_, rfl⟩, hW, hsame.mono (by decide) (by decide)⟩
  · show Steps p.tables e below (s₁.setTop (mkF m 0 #[.val (.ref wVisibility_USER_MANAGED_VISIBLE)] [])) _
    refine XS.aloadN X0.here hx rfl (hb hby own_d4_0) rfl rfl ?_
    show Steps p.tables e below (s₁.setTop (mkF m 1 #[.val (.ref wVisibility_USER_MANAGED_VISIBLE)] [(.ref wVisibility_USER_MANAGED_VISIBLE)])) _
    refine st1 _ ?_
    show Steps p.tables e below (T1.setTop (mkF m 4 #[.val (.ref wVisibility_USER_MANAGED_VISIBLE)] [(.ref wVisibility_VISIBLE), (.ref wVisibility_USER_MANAGED_VISIBLE)])) _
    refine Jvm.RoadKit.acmp (g := (mkF m 4 #[.val (.ref wVisibility_USER_MANAGED_VISIBLE)] [(.ref wVisibility_VISIBLE), (.ref wVisibility_USER_MANAGED_VISIBLE)])) X1 hx rfl rfl rfl (pc0 := 4) (pc' := 7) (same := false) rfl (hb hby own_d4_4) rfl (decide_eq_false fun q => (Ne.symm ne_wVisibility_VISIBLE_wVisibility_USER_MANAGED_VISIBLE) (Value.ref.inj q)) (by decide) (by decide) ?_
    show Steps p.tables e below (T1.setTop (mkF m 7 #[.val (.ref wVisibility_USER_MANAGED_VISIBLE)] [])) _
    refine XS.aloadN X1.here hx rfl (hb hby own_d4_7) rfl rfl ?_
    show Steps p.tables e below (T1.setTop (mkF m 8 #[.val (.ref wVisibility_USER_MANAGED_VISIBLE)] [(.ref wVisibility_USER_MANAGED_VISIBLE)])) _
    refine st2 _ ?_
    show Steps p.tables e below (T2.setTop (mkF m 11 #[.val (.ref wVisibility_USER_MANAGED_VISIBLE)] [(.ref wVisibility_USER_MANAGED_VISIBLE), (.ref wVisibility_USER_MANAGED_VISIBLE)])) _
    refine Jvm.RoadKit.acmp (g := (mkF m 11 #[.val (.ref wVisibility_USER_MANAGED_VISIBLE)] [(.ref wVisibility_USER_MANAGED_VISIBLE), (.ref wVisibility_USER_MANAGED_VISIBLE)])) X2 hx rfl rfl rfl (pc0 := 11) (pc' := 14) (same := true) rfl (hb hby own_d4_11) rfl (decide_eq_true rfl) (by decide) (by decide) ?_
    show Steps p.tables e below (T2.setTop (mkF m 14 #[.val (.ref wVisibility_USER_MANAGED_VISIBLE)] [])) _
    refine XS.iconst X2.here hx rfl (hb hby own_d4_14) ?_
    show Steps p.tables e below (T2.setTop (mkF m 15 #[.val (.ref wVisibility_USER_MANAGED_VISIBLE)] [(.int (1 : Int32))])) _
    refine XS.goto X2.here hx rfl (pc0 := 15) (pc' := 19) rfl (hb hby own_d4_15) (by decide) (by decide) ?_
    show Steps p.tables e below (T2.setTop (mkF m 19 #[.val (.ref wVisibility_USER_MANAGED_VISIBLE)] [(.int (1 : Int32))])) _
    exact retN X2 hx (t := .boolean) Bd.returns (by simp) (hb hby own_d4_19) hr
  · exact ⟨rfl, N0, e2⟩
set_option maxRecDepth 65536 in
set_option maxHeartbeats 40000000 in
theorem own_r0_k2 (l : Launch) (Z : State) (a0 : Array Value) (hw : ∀ d ∈ tables_1, d.before a0 Z = true) (ws : List Jvm.Cond) (wVisibility_UNDEFINED : Addr) (wVisibility_VISIBLE : Addr) (wVisibility_USER_MANAGED_VISIBLE : Addr) (wVisibility_NOT_VISIBLE : Addr) (wVisibility_USER_MANAGED_NOT_VISIBLE : Addr) (h0 : Heap) (n0 : Nat) (Z0 : n0 ≤ h0.size) (F : own_W Z h0 wVisibility_UNDEFINED wVisibility_VISIBLE wVisibility_USER_MANAGED_VISIBLE wVisibility_NOT_VISIBLE wVisibility_USER_MANAGED_NOT_VISIBLE) (i0 : Int32) (hk : ((i0 &&& (2147483647 : Int32)) % (5 : Int32)) = (2 : Int32)) :
    MetFree l x (head1 (Jvm.Cond.code x code maxLocals ret :: ws) room_1) (fun a U => a = #[(.int i0)] ∧ Z.Warmed39 U.vm ∧ U.heap = h0) (fun _ _ _ _ _ => True) (fun _ U o U' => ∃ v L, o = .returned v ∧ own_Q (.int (1 : Int32)) h0 n0 v U'.heap L ∧ FrameEnd U o U' L room_1.cells room_1.slots) := by
  obtain ⟨S_wVisibility_UNDEFINED, E_wVisibility_UNDEFINED, S_wVisibility_VISIBLE, E_wVisibility_VISIBLE, S_wVisibility_USER_MANAGED_VISIBLE, E_wVisibility_USER_MANAGED_VISIBLE, S_wVisibility_NOT_VISIBLE, E_wVisibility_NOT_VISIBLE, S_wVisibility_USER_MANAGED_NOT_VISIBLE, E_wVisibility_USER_MANAGED_NOT_VISIBLE, F_wVisibility_UNDEFINED_ordinal, F_wVisibility_VISIBLE_ordinal, F_wVisibility_USER_MANAGED_VISIBLE_ordinal, F_wVisibility_NOT_VISIBLE_ordinal, F_wVisibility_USER_MANAGED_NOT_VISIBLE_ordinal, ne_wVisibility_UNDEFINED_wVisibility_VISIBLE, ne_wVisibility_UNDEFINED_wVisibility_USER_MANAGED_VISIBLE, ne_wVisibility_UNDEFINED_wVisibility_NOT_VISIBLE, ne_wVisibility_UNDEFINED_wVisibility_USER_MANAGED_NOT_VISIBLE, ne_wVisibility_VISIBLE_wVisibility_USER_MANAGED_VISIBLE, ne_wVisibility_VISIBLE_wVisibility_NOT_VISIBLE, ne_wVisibility_VISIBLE_wVisibility_USER_MANAGED_NOT_VISIBLE, ne_wVisibility_USER_MANAGED_VISIBLE_wVisibility_NOT_VISIBLE, ne_wVisibility_USER_MANAGED_VISIBLE_wVisibility_USER_MANAGED_NOT_VISIBLE, ne_wVisibility_NOT_VISIBLE_wVisibility_USER_MANAGED_NOT_VISIBLE⟩ := id F
  refine MetFree.of_bodySF (plainFor_of_name own_pn_VisibilityServedPinLaw) hisR ?_
  intro p e s m args below meth c s₁ Bd hml0 hP hK
  obtain ⟨rfl, hZ, hh⟩ := hP
  have hx := Bd.exec
  have hby := Bd.bytes
  have hml : c.maxLocals = 4 := hml0
  have hown : s.vm.findClass "io/authlatch/callers/VisibilityServedPinLaw" = some m.cls := findClass_of_methodNamed Bd.named
  have X0 : Stand p l e room_1 s m #[(.int i0)] below meth c s₁ [] 0 0 := Stand.of_body Bd
  have e0 : s₁.heap = h0 := by rw [← hh, Bd.state]; rfl
  have N0 := Fr.nil n0
  have pre0 : ∀ t, Steps p.tables e below (s₁.setTop (mkF m 0 #[.val (.int i0), .unset, .unset, .unset] [])) t → Steps p.tables e below (s₁.setTop (entryFrame m #[(.int i0)] maxLocals)) t := fun t k => castTop (own_ef0_I m i0) k
  obtain ⟨_, _, ⟨T1, L1, k1, n1⟩, -, X1, ⟨Lc1, hQ1, l1, y1, z1⟩, st1⟩ := Jvm.LawKit.callS X0 hx (y := (⟨"io/authlatch/callers/VisibilityServedPinLaw", "pick", "(I)Lio/authlatch/callers/Visibility;"⟩ : MethodName)) hown (mvT hZ (hw _ (List.mem_of_getElem? (i := 1) rfl))) (mvT hZ (hw _ (List.mem_of_getElem? (i := 2) rfl))) (mvT hZ (hw _ (List.mem_of_getElem? (i := 3) rfl))) (mvT hZ (hw _ (List.mem_of_getElem? (i := 4) rfl))) (by decide) (backOf (W := 0) (own_r1_12 l Z a0 hw [] wVisibility_UNDEFINED wVisibility_VISIBLE wVisibility_USER_MANAGED_VISIBLE wVisibility_NOT_VISIBLE wVisibility_USER_MANAGED_NOT_VISIBLE h0 n0 Z0 F ) hZ (hw _ (List.mem_of_getElem? (i := 4) rfl)) (hw _ (List.mem_of_getElem? (i := 3) rfl)) (by decide) (by decide)) (g := (mkF m 8 #[.val (.int i0), .val (.int (2 : Int32)), .unset, .unset] [(.int (2 : Int32))])) rfl (by rw [hml]; rfl) (argsL := [(.int (2 : Int32))]) (rest := []) (lenOf own_pd0 rfl) rfl (by show 2 * 0 + _ ≤ _; exact Nat.le_of_eq rfl) (hb hby at_8) (fun _ _ => ⟨rfl, e0, (by decide : 0 + 0 ≤ _), (by decide : 0 + 0 ≤ _)⟩)
  dsimp only [Pt.U, Pt.locs, Pt.cells, Pt.slots] at X1 l1 y1 z1 st1 hQ1
  subst l1 y1 z1
  obtain ⟨rfl, N1q, e1⟩ := hQ1
  have N1 := Fr.app N0 N1q
  obtain ⟨cq2, kq2, q2a, q2b, q2c⟩ := isOf hZ e1 E_wVisibility_USER_MANAGED_VISIBLE
  obtain ⟨_, _, ⟨T2, L2, k2, n2⟩, -, X2, ⟨Lc2, hQ2, l2, y2, z2⟩, st2⟩ := X1.virtualBack hx (y := (⟨"io/authlatch/callers/Visibility", "number", "()I"⟩ : MethodName)) (z := (⟨"io/authlatch/callers/Visibility", "number", "()I"⟩ : MethodName)) hown (mvT hZ (hw _ (List.mem_of_getElem? (i := 8) rfl))) (mvT hZ (hw _ (List.mem_of_getElem? (i := 9) rfl))) (notFace_of_selects (args := #[]) (mvT hZ (hw _ (List.mem_of_getElem? (i := 11) rfl)))) (mvT hZ (hw _ (List.mem_of_getElem? (i := 11) rfl))) (mvT hZ (hw _ (List.mem_of_getElem? (i := 10) rfl))) (by decide) (backOf (W := 0) (own_r2_13 l Z a0 hw [] wVisibility_UNDEFINED wVisibility_VISIBLE wVisibility_USER_MANAGED_VISIBLE wVisibility_NOT_VISIBLE wVisibility_USER_MANAGED_NOT_VISIBLE h0 n0 Z0 F ) hZ (hw _ (List.mem_of_getElem? (i := 12) rfl)) (hw _ (List.mem_of_getElem? (i := 6) rfl)) (by decide) (by decide)) q2a q2c (g := (mkF m 29 #[.val (.int i0), .val (.int (2 : Int32)), .val (.ref wVisibility_USER_MANAGED_VISIBLE), .val (.int (1 : Int32))] [(.ref wVisibility_USER_MANAGED_VISIBLE)])) rfl (by rw [hml]; rfl) (Steps.refl _) (argsL := []) (rest := []) (lenOf own_pd1 rfl) rfl (by show 2 * 0 + _ ≤ _; exact Nat.le_of_eq rfl) (hb hby at_29) (fun _ _ => ⟨rfl, e1, (by decide : 0 + 0 ≤ _), (by decide : 0 + 0 ≤ _)⟩)
  dsimp only [Pt.U, Pt.locs, Pt.cells, Pt.slots] at X2 l2 y2 z2 st2 hQ2
  subst l2 y2 z2
  obtain ⟨rfl, N2q, e2⟩ := hQ2
  have N2 := Fr.app N1 N2q
  obtain ⟨cq3, kq3, q3a, q3b, q3c⟩ := isOf hZ e2 E_wVisibility_USER_MANAGED_VISIBLE
  obtain ⟨_, _, ⟨T3, L3, k3, n3⟩, -, X3, ⟨Lc3, hQ3, l3, y3, z3⟩, st3⟩ := X2.virtualBack hx (y := (⟨"io/authlatch/callers/Visibility", "served", "()Z"⟩ : MethodName)) (z := (⟨"io/authlatch/callers/Visibility", "served", "()Z"⟩ : MethodName)) hown (mvT hZ (hw _ (List.mem_of_getElem? (i := 22) rfl))) (mvT hZ (hw _ (List.mem_of_getElem? (i := 23) rfl))) (notFace_of_selects (args := #[]) (mvT hZ (hw _ (List.mem_of_getElem? (i := 25) rfl)))) (mvT hZ (hw _ (List.mem_of_getElem? (i := 25) rfl))) (mvT hZ (hw _ (List.mem_of_getElem? (i := 24) rfl))) (by decide) (backOf (W := 0) (own_r4_15 l Z a0 hw [] wVisibility_UNDEFINED wVisibility_VISIBLE wVisibility_USER_MANAGED_VISIBLE wVisibility_NOT_VISIBLE wVisibility_USER_MANAGED_NOT_VISIBLE h0 n0 Z0 F ) hZ (hw _ (List.mem_of_getElem? (i := 26) rfl)) (hw _ (List.mem_of_getElem? (i := 6) rfl)) (by decide) (by decide)) q3a q3c (g := (mkF m 37 #[.val (.int i0), .val (.int (2 : Int32)), .val (.ref wVisibility_USER_MANAGED_VISIBLE), .val (.int (1 : Int32))] [(.ref wVisibility_USER_MANAGED_VISIBLE)])) rfl (by rw [hml]; rfl) (Steps.refl _) (argsL := []) (rest := []) (lenOf own_pd2 rfl) rfl (by show 2 * 0 + _ ≤ _; exact Nat.le_of_eq rfl) (hb hby at_37) (fun _ _ => ⟨rfl, e2, (by decide : 0 + 0 ≤ _), (by decide : 0 + 0 ≤ _)⟩)
  dsimp only [Pt.U, Pt.locs, Pt.cells, Pt.slots] at X3 l3 y3 z3 st3 hQ3
  subst l3 y3 z3
  obtain ⟨rfl, N3q, e3⟩ := hQ3
  have N3 := Fr.app N2 N3q
  obtain ⟨fs, hr, hrun, hended, hW, hsame⟩ := X3.leave (v := some (.int (1 : Int32))) (fun h => by rw [Bd.returns] at h; cases h)
  refine ⟨_, _, pre0 _ ?_, hrun, hended, _, _, rfl, ?_, ⟨_, rfl⟩, hW, hsame.mono (by decide) (by decide)⟩
  · show Steps p.tables e below (s₁.setTop (mkF m 0 #[.val (.int i0), .unset, .unset, .unset] [])) _
    refine XS.iloadN X0.here hx rfl (hb hby at_0) rfl ?_
    show Steps p.tables e below (s₁.setTop (mkF m 1 #[.val (.int i0), .unset, .unset, .unset] [(.int i0)])) _
    refine X0.ldcInt hx hown (mvT hZ (hw _ (List.mem_of_getElem? (i := 0) rfl))) (g := (mkF m 1 #[.val (.int i0), .unset, .unset, .unset] [(.int i0)])) rfl (hb hby at_1) _ ?_
    show Steps p.tables e below (s₁.setTop (mkF m 3 #[.val (.int i0), .unset, .unset, .unset] [(.int (2147483647 : Int32)), (.int i0)])) _
    refine XS.iand X0.here hx rfl (hb hby at_3) rfl ?_
    show Steps p.tables e below (s₁.setTop (mkF m 4 #[.val (.int i0), .unset, .unset, .unset] [(.int (i0 &&& (2147483647 : Int32)))])) _
    refine XS.iconst X0.here hx rfl (hb hby at_4) ?_
    show Steps p.tables e below (s₁.setTop (mkF m 5 #[.val (.int i0), .unset, .unset, .unset] [(.int (5 : Int32)), (.int (i0 &&& (2147483647 : Int32)))])) _
    refine iremM (g := (mkF m 5 #[.val (.int i0), .unset, .unset, .unset] [(.int (5 : Int32)), (.int (i0 &&& (2147483647 : Int32)))])) X0 hx rfl (hb hby at_5) rfl (by decide) ?_
    show Steps p.tables e below (s₁.setTop (mkF m 6 #[.val (.int i0), .unset, .unset, .unset] [(.int ((i0 &&& (2147483647 : Int32)) % (5 : Int32)))])) _
    rw [hk]
    show Steps p.tables e below (s₁.setTop (mkF m 6 #[.val (.int i0), .unset, .unset, .unset] [(.int (2 : Int32))])) _
    refine XS.istoreN X0.here hx rfl (hb hby at_6) rfl (l' := #[.val (.int i0), .val (.int (2 : Int32)), .unset, .unset]) rfl ?_
    show Steps p.tables e below (s₁.setTop (mkF m 7 #[.val (.int i0), .val (.int (2 : Int32)), .unset, .unset] [])) _
    refine XS.iloadN X0.here hx rfl (hb hby at_7) rfl ?_
    show Steps p.tables e below (s₁.setTop (mkF m 8 #[.val (.int i0), .val (.int (2 : Int32)), .unset, .unset] [(.int (2 : Int32))])) _
    refine st1 _ ?_
    show Steps p.tables e below (T1.setTop (mkF m 11 #[.val (.int i0), .val (.int (2 : Int32)), .unset, .unset] [(.ref wVisibility_USER_MANAGED_VISIBLE)])) _
    refine XS.astoreN X1.here hx rfl (hb hby at_11) rfl rfl (l' := #[.val (.int i0), .val (.int (2 : Int32)), .val (.ref wVisibility_USER_MANAGED_VISIBLE), .unset]) rfl ?_
    show Steps p.tables e below (T1.setTop (mkF m 12 #[.val (.int i0), .val (.int (2 : Int32)), .val (.ref wVisibility_USER_MANAGED_VISIBLE), .unset] [])) _
    refine XS.iloadN X1.here hx rfl (hb hby at_12) rfl ?_
    show Steps p.tables e below (T1.setTop (mkF m 13 #[.val (.int i0), .val (.int (2 : Int32)), .val (.ref wVisibility_USER_MANAGED_VISIBLE), .unset] [(.int (2 : Int32))])) _
    refine XS.iconst X1.here hx rfl (hb hby at_13) ?_
    show Steps p.tables e below (T1.setTop (mkF m 14 #[.val (.int i0), .val (.int (2 : Int32)), .val (.ref wVisibility_USER_MANAGED_VISIBLE), .unset] [(.int (1 : Int32)), (.int (2 : Int32))])) _
    refine XS.icmpNo X1.here hx rfl (hb hby at_14) rfl (feq (by decide : ¬ ((2 : Int32) = (1 : Int32)))).1 ?_
    show Steps p.tables e below (T1.setTop (mkF m 17 #[.val (.int i0), .val (.int (2 : Int32)), .val (.ref wVisibility_USER_MANAGED_VISIBLE), .unset] [])) _
    refine XS.iloadN X1.here hx rfl (hb hby at_17) rfl ?_
    show Steps p.tables e below (T1.setTop (mkF m 18 #[.val (.int i0), .val (.int (2 : Int32)), .val (.ref wVisibility_USER_MANAGED_VISIBLE), .unset] [(.int (2 : Int32))])) _
    refine XS.iconst X1.here hx rfl (hb hby at_18) ?_
    show Steps p.tables e below (T1.setTop (mkF m 19 #[.val (.int i0), .val (.int (2 : Int32)), .val (.ref wVisibility_USER_MANAGED_VISIBLE), .unset] [(.int (2 : Int32)), (.int (2 : Int32))])) _
    refine XS.icmpNo X1.here hx rfl (hb hby at_19) rfl (teq (by decide : (2 : Int32) = (2 : Int32))).2 ?_
    show Steps p.tables e below (T1.setTop (mkF m 22 #[.val (.int i0), .val (.int (2 : Int32)), .val (.ref wVisibility_USER_MANAGED_VISIBLE), .unset] [])) _
    refine XS.iconst X1.here hx rfl (hb hby at_22) ?_
    show Steps p.tables e below (T1.setTop (mkF m 23 #[.val (.int i0), .val (.int (2 : Int32)), .val (.ref wVisibility_USER_MANAGED_VISIBLE), .unset] [(.int (1 : Int32))])) _
    refine XS.goto X1.here hx rfl (pc0 := 23) (pc' := 27) rfl (hb hby at_23) (by decide) (by decide) ?_
    show Steps p.tables e below (T1.setTop (mkF m 27 #[.val (.int i0), .val (.int (2 : Int32)), .val (.ref wVisibility_USER_MANAGED_VISIBLE), .unset] [(.int (1 : Int32))])) _
    refine XS.istoreN X1.here hx rfl (hb hby at_27) rfl (l' := #[.val (.int i0), .val (.int (2 : Int32)), .val (.ref wVisibility_USER_MANAGED_VISIBLE), .val (.int (1 : Int32))]) rfl ?_
    show Steps p.tables e below (T1.setTop (mkF m 28 #[.val (.int i0), .val (.int (2 : Int32)), .val (.ref wVisibility_USER_MANAGED_VISIBLE), .val (.int (1 : Int32))] [])) _
    refine XS.aloadN X1.here hx rfl (hb hby at_28) rfl rfl ?_
    show Steps p.tables e below (T1.setTop (mkF m 29 #[.val (.int i0), .val (.int (2 : Int32)), .val (.ref wVisibility_USER_MANAGED_VISIBLE), .val (.int (1 : Int32))] [(.ref wVisibility_USER_MANAGED_VISIBLE)])) _
    refine st2.trans ?_
    show Steps p.tables e below (T2.setTop (mkF m 32 #[.val (.int i0), .val (.int (2 : Int32)), .val (.ref wVisibility_USER_MANAGED_VISIBLE), .val (.int (1 : Int32))] [(.int (2 : Int32))])) _
    refine XS.iloadN X2.here hx rfl (hb hby at_32) rfl ?_
    show Steps p.tables e below (T2.setTop (mkF m 33 #[.val (.int i0), .val (.int (2 : Int32)), .val (.ref wVisibility_USER_MANAGED_VISIBLE), .val (.int (1 : Int32))] [(.int (2 : Int32)), (.int (2 : Int32))])) _
    refine XS.icmpNo X2.here hx rfl (hb hby at_33) rfl (teq (by decide : (2 : Int32) = (2 : Int32))).2 ?_
    show Steps p.tables e below (T2.setTop (mkF m 36 #[.val (.int i0), .val (.int (2 : Int32)), .val (.ref wVisibility_USER_MANAGED_VISIBLE), .val (.int (1 : Int32))] [])) _
    refine XS.aloadN X2.here hx rfl (hb hby at_36) rfl rfl ?_
    show Steps p.tables e below (T2.setTop (mkF m 37 #[.val (.int i0), .val (.int (2 : Int32)), .val (.ref wVisibility_USER_MANAGED_VISIBLE), .val (.int (1 : Int32))] [(.ref wVisibility_USER_MANAGED_VISIBLE)])) _
    refine st3.trans ?_
    show Steps p.tables e below (T3.setTop (mkF m 40 #[.val (.int i0), .val (.int (2 : Int32)), .val (.ref wVisibility_USER_MANAGED_VISIBLE), .val (.int (1 : Int32))] [(.int (1 : Int32))])) _
    refine XS.iloadN X3.here hx rfl (hb hby at_40) rfl ?_
    show Steps p.tables e below (T3.setTop (mkF m 41 #[.val (.int i0), .val (.int (2 : Int32)), .val (.ref wVisibility_USER_MANAGED_VISIBLE), .val (.int (1 : Int32))] [(.int (1 : Int32)), (.int (1 : Int32))])) _
    refine XS.icmpNo X3.here hx rfl (hb hby at_41) rfl (teq (by decide : (1 : Int32) = (1 : Int32))).2 ?_
    show Steps p.tables e below (T3.setTop (mkF m 44 #[.val (.int i0), .val (.int (2 : Int32)), .val (.ref wVisibility_USER_MANAGED_VISIBLE), .val (.int (1 : Int32))] [])) _
    refine XS.iconst X3.here hx rfl (hb hby at_44) ?_
    show Steps p.tables e below (T3.setTop (mkF m 45 #[.val (.int i0), .val (.int (2 : Int32)), .val (.ref wVisibility_USER_MANAGED_VISIBLE), .val (.int (1 : Int32))] [(.int (1 : Int32))])) _
    refine XS.goto X3.here hx rfl (pc0 := 45) (pc' := 49) rfl (hb hby at_45) (by decide) (by decide) ?_
    show Steps p.tables e below (T3.setTop (mkF m 49 #[.val (.int i0), .val (.int (2 : Int32)), .val (.ref wVisibility_USER_MANAGED_VISIBLE), .val (.int (1 : Int32))] [(.int (1 : Int32))])) _
    exact retN X3 hx (t := .boolean) Bd.returns (by simp) (hb hby at_49) hr
  · exact ⟨rfl, N3, e3⟩
theorem own_d1_26 : decode method_3_code 26 = .ok (.iload_n 0, 1) := by decide +kernel
theorem own_d1_27 : decode method_3_code 27 = .ok (.iconst 3, 1) := by decide +kernel
theorem own_d1_28 : decode method_3_code 28 = .ok (.if_icmp .ne 7, 3) := by decide +kernel
theorem own_d1_31 : decode method_3_code 31 = .ok (.getstatic 34, 3) := by decide +kernel
theorem own_d1_34 : decode method_3_code 34 = .ok (.areturn, 1) := by decide +kernel
set_option maxRecDepth 65536 in
set_option maxHeartbeats 40000000 in
theorem own_r1_17 (l : Launch) (Z : State) (a0 : Array Value) (hw : ∀ d ∈ tables_1, d.before a0 Z = true) (ws : List Jvm.Cond) (wVisibility_UNDEFINED : Addr) (wVisibility_VISIBLE : Addr) (wVisibility_USER_MANAGED_VISIBLE : Addr) (wVisibility_NOT_VISIBLE : Addr) (wVisibility_USER_MANAGED_NOT_VISIBLE : Addr) (h0 : Heap) (n0 : Nat) (Z0 : n0 ≤ h0.size) (F : own_W Z h0 wVisibility_UNDEFINED wVisibility_VISIBLE wVisibility_USER_MANAGED_VISIBLE wVisibility_NOT_VISIBLE wVisibility_USER_MANAGED_NOT_VISIBLE)   :
    MetFree l (⟨"io/authlatch/callers/VisibilityServedPinLaw", "pick", "(I)Lio/authlatch/callers/Visibility;"⟩ : MethodName) (head1 (Jvm.Cond.code (⟨"io/authlatch/callers/VisibilityServedPinLaw", "pick", "(I)Lio/authlatch/callers/Visibility;"⟩ : MethodName) method_3_code 1 (some (.object "io/authlatch/callers/Visibility")) :: ws) ({ frames := 0, cells := 0, slots := 0, locals := 0 } : Room)) (fun a U => a = #[(.int (3 : Int32))] ∧ Z.Warmed39 U.vm ∧ U.heap = h0) (fun _ _ _ _ _ => True) (fun _ U o U' => ∃ v L, o = .returned v ∧ own_Q (.ref wVisibility_NOT_VISIBLE) h0 n0 v U'.heap L ∧ FrameEnd U o U' L ({ frames := 0, cells := 0, slots := 0, locals := 0 } : Room).cells ({ frames := 0, cells := 0, slots := 0, locals := 0 } : Room).slots) := by
  obtain ⟨S_wVisibility_UNDEFINED, E_wVisibility_UNDEFINED, S_wVisibility_VISIBLE, E_wVisibility_VISIBLE, S_wVisibility_USER_MANAGED_VISIBLE, E_wVisibility_USER_MANAGED_VISIBLE, S_wVisibility_NOT_VISIBLE, E_wVisibility_NOT_VISIBLE, S_wVisibility_USER_MANAGED_NOT_VISIBLE, E_wVisibility_USER_MANAGED_NOT_VISIBLE, F_wVisibility_UNDEFINED_ordinal, F_wVisibility_VISIBLE_ordinal, F_wVisibility_USER_MANAGED_VISIBLE_ordinal, F_wVisibility_NOT_VISIBLE_ordinal, F_wVisibility_USER_MANAGED_NOT_VISIBLE_ordinal, ne_wVisibility_UNDEFINED_wVisibility_VISIBLE, ne_wVisibility_UNDEFINED_wVisibility_USER_MANAGED_VISIBLE, ne_wVisibility_UNDEFINED_wVisibility_NOT_VISIBLE, ne_wVisibility_UNDEFINED_wVisibility_USER_MANAGED_NOT_VISIBLE, ne_wVisibility_VISIBLE_wVisibility_USER_MANAGED_VISIBLE, ne_wVisibility_VISIBLE_wVisibility_NOT_VISIBLE, ne_wVisibility_VISIBLE_wVisibility_USER_MANAGED_NOT_VISIBLE, ne_wVisibility_USER_MANAGED_VISIBLE_wVisibility_NOT_VISIBLE, ne_wVisibility_USER_MANAGED_VISIBLE_wVisibility_USER_MANAGED_NOT_VISIBLE, ne_wVisibility_NOT_VISIBLE_wVisibility_USER_MANAGED_NOT_VISIBLE⟩ := id F
  refine MetFree.of_bodySF (plainFor_of_name own_pn_VisibilityServedPinLaw) hisR ?_
  intro p e s m args below meth c s₁ Bd hml0 hP hK
  obtain ⟨rfl, hZ, hh⟩ := hP
  have hx := Bd.exec
  have hby := Bd.bytes
  have hml : c.maxLocals = 1 := hml0
  have hown : s.vm.findClass "io/authlatch/callers/VisibilityServedPinLaw" = some m.cls := findClass_of_methodNamed Bd.named
  have X0 : Stand p l e ({ frames := 0, cells := 0, slots := 0, locals := 0 } : Room) s m #[(.int (3 : Int32))] below meth c s₁ [] 0 0 := Stand.of_body Bd
  have e0 : s₁.heap = h0 := by rw [← hh, Bd.state]; rfl
  have N0 := Fr.nil n0
  have pre0 : ∀ t, Steps p.tables e below (s₁.setTop (mkF m 0 #[.val (.int (3 : Int32))] [])) t → Steps p.tables e below (s₁.setTop (entryFrame m #[(.int (3 : Int32))] 1)) t := fun t k => castTop (own_ef1_I m (3 : Int32)) k
  obtain ⟨T1, X1, e1, st1⟩ := getS2 X0 hx hZ hown (host := "") (Or.inl (hw _ (List.mem_of_getElem? (i := 31) rfl))) Via.refl e0 S_wVisibility_NOT_VISIBLE (g := (mkF m 31 #[.val (.int (3 : Int32))] [])) rfl (hb hby own_d1_31)
  obtain ⟨fs, hr, hrun, hended, hW, hsame⟩ := X1.leave (v := some (.ref wVisibility_NOT_VISIBLE)) (fun h => by rw [Bd.returns] at h; cases h)
  refine ⟨_, _, pre0 _ ?_, hrun, hended, _, _, rfl, ?_, ⟨_, rfl⟩, hW, hsame.mono (by decide) (by decide)⟩
  · show Steps p.tables e below (s₁.setTop (mkF m 0 #[.val (.int (3 : Int32))] [])) _
    refine XS.iloadN X0.here hx rfl (hb hby own_d1_0) rfl ?_
    show Steps p.tables e below (s₁.setTop (mkF m 1 #[.val (.int (3 : Int32))] [(.int (3 : Int32))])) _
    refine XS.ifYes X0.here hx rfl (pc0 := 1) (pc' := 8) rfl (hb hby own_d1_1) rfl ((if0 _ _).trans (feq (by decide : ¬ ((3 : Int32) = (0 : Int32)))).2) (by decide) (by decide) ?_
    show Steps p.tables e below (s₁.setTop (mkF m 8 #[.val (.int (3 : Int32))] [])) _
    refine XS.iloadN X0.here hx rfl (hb hby own_d1_8) rfl ?_
    show Steps p.tables e below (s₁.setTop (mkF m 9 #[.val (.int (3 : Int32))] [(.int (3 : Int32))])) _
    refine XS.iconst X0.here hx rfl (hb hby own_d1_9) ?_
    show Steps p.tables e below (s₁.setTop (mkF m 10 #[.val (.int (3 : Int32))] [(.int (1 : Int32)), (.int (3 : Int32))])) _
    refine XS.icmpYes X0.here hx rfl (pc0 := 10) (pc' := 17) rfl (hb hby own_d1_10) rfl (feq (by decide : ¬ ((3 : Int32) = (1 : Int32)))).2 (by decide) (by decide) ?_
    show Steps p.tables e below (s₁.setTop (mkF m 17 #[.val (.int (3 : Int32))] [])) _
    refine XS.iloadN X0.here hx rfl (hb hby own_d1_17) rfl ?_
    show Steps p.tables e below (s₁.setTop (mkF m 18 #[.val (.int (3 : Int32))] [(.int (3 : Int32))])) _
    refine XS.iconst X0.here hx rfl (hb hby own_d1_18) ?_
    show Steps p.tables e below (s₁.setTop (mkF m 19 #[.val (.int (3 : Int32))] [(.int (2 : Int32)), (.int (3 : Int32))])) _
    refine XS.icmpYes X0.here hx rfl (pc0 := 19) (pc' := 26) rfl (hb hby own_d1_19) rfl (feq (by decide : ¬ ((3 : Int32) = (2 : Int32)))).2 (by decide) (by decide) ?_
    show Steps p.tables e below (s₁.setTop (mkF m 26 #[.val (.int (3 : Int32))] [])) _
    refine XS.iloadN X0.here hx rfl (hb hby own_d1_26) rfl ?_
    show Steps p.tables e below (s₁.setTop (mkF m 27 #[.val (.int (3 : Int32))] [(.int (3 : Int32))])) _
    refine XS.iconst X0.here hx rfl (hb hby own_d1_27) ?_
    show Steps p.tables e below (s₁.setTop (mkF m 28 #[.val (.int (3 : Int32))] [(.int (3 : Int32)), (.int (3 : Int32))])) _
    refine XS.icmpNo X0.here hx rfl (hb hby own_d1_28) rfl (teq (by decide : (3 : Int32) = (3 : Int32))).2 ?_
    show Steps p.tables e below (s₁.setTop (mkF m 31 #[.val (.int (3 : Int32))] [])) _
    refine st1 _ ?_
    show Steps p.tables e below (T1.setTop (mkF m 34 #[.val (.int (3 : Int32))] [(.ref wVisibility_NOT_VISIBLE)])) _
    jvm_step X1.here [X1.here.top, hx, (hb hby own_d1_34), X1.method', Bd.returns, Value.isRef, FieldType.isReference]
    first | (intro acts; rw [hr _ acts rfl rfl rfl]) | rw [hr _ _ rfl rfl rfl]
    exact Steps.refl _
  · exact ⟨rfl, N0, e1⟩
set_option maxRecDepth 65536 in
set_option maxHeartbeats 40000000 in
theorem own_r3_19 (l : Launch) (Z : State) (a0 : Array Value) (hw : ∀ d ∈ tables_1, d.before a0 Z = true) (ws : List Jvm.Cond) (wVisibility_UNDEFINED : Addr) (wVisibility_VISIBLE : Addr) (wVisibility_USER_MANAGED_VISIBLE : Addr) (wVisibility_NOT_VISIBLE : Addr) (wVisibility_USER_MANAGED_NOT_VISIBLE : Addr) (h0 : Heap) (n0 : Nat) (Z0 : n0 ≤ h0.size) (F : own_W Z h0 wVisibility_UNDEFINED wVisibility_VISIBLE wVisibility_USER_MANAGED_VISIBLE wVisibility_NOT_VISIBLE wVisibility_USER_MANAGED_NOT_VISIBLE)   :
    MetFree l (⟨"java/lang/Enum", "ordinal", "()I"⟩ : MethodName) (head1 (Jvm.Cond.code (⟨"java/lang/Enum", "ordinal", "()I"⟩ : MethodName) jdk_37_method_2_code 1 (some .int) :: ws) ({ frames := 0, cells := 0, slots := 0, locals := 0 } : Room)) (fun a U => a = #[(.ref wVisibility_NOT_VISIBLE)] ∧ Z.Warmed39 U.vm ∧ U.heap = h0) (fun _ _ _ _ _ => True) (fun _ U o U' => ∃ v L, o = .returned v ∧ own_Q (.int (3 : Int32)) h0 n0 v U'.heap L ∧ FrameEnd U o U' L ({ frames := 0, cells := 0, slots := 0, locals := 0 } : Room).cells ({ frames := 0, cells := 0, slots := 0, locals := 0 } : Room).slots) := by
  obtain ⟨S_wVisibility_UNDEFINED, E_wVisibility_UNDEFINED, S_wVisibility_VISIBLE, E_wVisibility_VISIBLE, S_wVisibility_USER_MANAGED_VISIBLE, E_wVisibility_USER_MANAGED_VISIBLE, S_wVisibility_NOT_VISIBLE, E_wVisibility_NOT_VISIBLE, S_wVisibility_USER_MANAGED_NOT_VISIBLE, E_wVisibility_USER_MANAGED_NOT_VISIBLE, F_wVisibility_UNDEFINED_ordinal, F_wVisibility_VISIBLE_ordinal, F_wVisibility_USER_MANAGED_VISIBLE_ordinal, F_wVisibility_NOT_VISIBLE_ordinal, F_wVisibility_USER_MANAGED_NOT_VISIBLE_ordinal, ne_wVisibility_UNDEFINED_wVisibility_VISIBLE, ne_wVisibility_UNDEFINED_wVisibility_USER_MANAGED_VISIBLE, ne_wVisibility_UNDEFINED_wVisibility_NOT_VISIBLE, ne_wVisibility_UNDEFINED_wVisibility_USER_MANAGED_NOT_VISIBLE, ne_wVisibility_VISIBLE_wVisibility_USER_MANAGED_VISIBLE, ne_wVisibility_VISIBLE_wVisibility_NOT_VISIBLE, ne_wVisibility_VISIBLE_wVisibility_USER_MANAGED_NOT_VISIBLE, ne_wVisibility_USER_MANAGED_VISIBLE_wVisibility_NOT_VISIBLE, ne_wVisibility_USER_MANAGED_VISIBLE_wVisibility_USER_MANAGED_NOT_VISIBLE, ne_wVisibility_NOT_VISIBLE_wVisibility_USER_MANAGED_NOT_VISIBLE⟩ := id F
  refine MetFree.of_bodySF (plainFor_of_name own_pn_Enum) hisR ?_
  intro p e s m args below meth c s₁ Bd hml0 hP hK
  obtain ⟨rfl, hZ, hh⟩ := hP
  have hx := Bd.exec
  have hby := Bd.bytes
  have hml : c.maxLocals = 1 := hml0
  have hown : s.vm.findClass "java/lang/Enum" = some m.cls := findClass_of_methodNamed Bd.named
  have X0 : Stand p l e ({ frames := 0, cells := 0, slots := 0, locals := 0 } : Room) s m #[(.ref wVisibility_NOT_VISIBLE)] below meth c s₁ [] 0 0 := Stand.of_body Bd
  have e0 : s₁.heap = h0 := by rw [← hh, Bd.state]; rfl
  have N0 := Fr.nil n0
  have pre0 : ∀ t, Steps p.tables e below (s₁.setTop (mkF m 0 #[.val (.ref wVisibility_NOT_VISIBLE)] [])) t → Steps p.tables e below (s₁.setTop (entryFrame m #[(.ref wVisibility_NOT_VISIBLE)] 1)) t := fun t k => castTop (own_ef3_R m wVisibility_NOT_VISIBLE) k
  obtain ⟨T1, X1, e1, st1⟩ := getF X0 hx hZ hown (host := "") (Or.inl (hw _ (List.mem_of_getElem? (i := 20) rfl))) Via.refl e0 F_wVisibility_NOT_VISIBLE_ordinal (g := (mkF m 1 #[.val (.ref wVisibility_NOT_VISIBLE)] [(.ref wVisibility_NOT_VISIBLE)])) rfl rfl (hb hby own_d3_1)
  obtain ⟨fs, hr, hrun, hended, hW, hsame⟩ := X1.leave (v := some (.int (3 : Int32))) (fun h => by rw [Bd.returns] at h; cases h)
  refine ⟨_, _, pre0 _ ?_, hrun, hended, _, _, rfl, ?_, ⟨_, rfl⟩, hW, hsame.mono (by decide) (by decide)⟩
  · show Steps p.tables e below (s₁.setTop (mkF m 0 #[.val (.ref wVisibility_NOT_VISIBLE)] [])) _
    refine XS.aloadN X0.here hx rfl (hb hby own_d3_0) rfl rfl ?_
    show Steps p.tables e below (s₁.setTop (mkF m 1 #[.val (.ref wVisibility_NOT_VISIBLE)] [(.ref wVisibility_NOT_VISIBLE)])) _
    refine st1 _ ?_
    show Steps p.tables e below (T1.setTop (mkF m 4 #[.val (.ref wVisibility_NOT_VISIBLE)] [(.int (3 : Int32))])) _
    exact retI X1 hx Bd.returns (hb hby own_d3_4) hr
  · exact ⟨rfl, N0, e1⟩
set_option maxRecDepth 65536 in
set_option maxHeartbeats 40000000 in
theorem own_r2_18 (l : Launch) (Z : State) (a0 : Array Value) (hw : ∀ d ∈ tables_1, d.before a0 Z = true) (ws : List Jvm.Cond) (wVisibility_UNDEFINED : Addr) (wVisibility_VISIBLE : Addr) (wVisibility_USER_MANAGED_VISIBLE : Addr) (wVisibility_NOT_VISIBLE : Addr) (wVisibility_USER_MANAGED_NOT_VISIBLE : Addr) (h0 : Heap) (n0 : Nat) (Z0 : n0 ≤ h0.size) (F : own_W Z h0 wVisibility_UNDEFINED wVisibility_VISIBLE wVisibility_USER_MANAGED_VISIBLE wVisibility_NOT_VISIBLE wVisibility_USER_MANAGED_NOT_VISIBLE)   :
    MetFree l (⟨"io/authlatch/callers/Visibility", "number", "()I"⟩ : MethodName) (head1 (Jvm.Cond.code (⟨"io/authlatch/callers/Visibility", "number", "()I"⟩ : MethodName) prog_32_method_6_code 1 (some .int) :: ws) ({ frames := 1, cells := 0, slots := 0, locals := 12 } : Room)) (fun a U => a = #[(.ref wVisibility_NOT_VISIBLE)] ∧ Z.Warmed39 U.vm ∧ U.heap = h0) (fun _ _ _ _ _ => True) (fun _ U o U' => ∃ v L, o = .returned v ∧ own_Q (.int (3 : Int32)) h0 n0 v U'.heap L ∧ FrameEnd U o U' L ({ frames := 1, cells := 0, slots := 0, locals := 12 } : Room).cells ({ frames := 1, cells := 0, slots := 0, locals := 12 } : Room).slots) := by
  obtain ⟨S_wVisibility_UNDEFINED, E_wVisibility_UNDEFINED, S_wVisibility_VISIBLE, E_wVisibility_VISIBLE, S_wVisibility_USER_MANAGED_VISIBLE, E_wVisibility_USER_MANAGED_VISIBLE, S_wVisibility_NOT_VISIBLE, E_wVisibility_NOT_VISIBLE, S_wVisibility_USER_MANAGED_NOT_VISIBLE, E_wVisibility_USER_MANAGED_NOT_VISIBLE, F_wVisibility_UNDEFINED_ordinal, F_wVisibility_VISIBLE_ordinal, F_wVisibility_USER_MANAGED_VISIBLE_ordinal, F_wVisibility_NOT_VISIBLE_ordinal, F_wVisibility_USER_MANAGED_NOT_VISIBLE_ordinal, ne_wVisibility_UNDEFINED_wVisibility_VISIBLE, ne_wVisibility_UNDEFINED_wVisibility_USER_MANAGED_VISIBLE, ne_wVisibility_UNDEFINED_wVisibility_NOT_VISIBLE, ne_wVisibility_UNDEFINED_wVisibility_USER_MANAGED_NOT_VISIBLE, ne_wVisibility_VISIBLE_wVisibility_USER_MANAGED_VISIBLE, ne_wVisibility_VISIBLE_wVisibility_NOT_VISIBLE, ne_wVisibility_VISIBLE_wVisibility_USER_MANAGED_NOT_VISIBLE, ne_wVisibility_USER_MANAGED_VISIBLE_wVisibility_NOT_VISIBLE, ne_wVisibility_USER_MANAGED_VISIBLE_wVisibility_USER_MANAGED_NOT_VISIBLE, ne_wVisibility_NOT_VISIBLE_wVisibility_USER_MANAGED_NOT_VISIBLE⟩ := id F
  refine MetFree.of_bodySF (plainFor_of_name own_pn_Visibility) hisR ?_
  intro p e s m args below meth c s₁ Bd hml0 hP hK
  obtain ⟨rfl, hZ, hh⟩ := hP
  have hx := Bd.exec
  have hby := Bd.bytes
  have hml : c.maxLocals = 1 := hml0
  have hown : s.vm.findClass "io/authlatch/callers/Visibility" = some m.cls := findClass_of_methodNamed Bd.named
  have X0 : Stand p l e ({ frames := 1, cells := 0, slots := 0, locals := 12 } : Room) s m #[(.ref wVisibility_NOT_VISIBLE)] below meth c s₁ [] 0 0 := Stand.of_body Bd
  have e0 : s₁.heap = h0 := by rw [← hh, Bd.state]; rfl
  have N0 := Fr.nil n0
  have pre0 : ∀ t, Steps p.tables e below (s₁.setTop (mkF m 0 #[.val (.ref wVisibility_NOT_VISIBLE)] [])) t → Steps p.tables e below (s₁.setTop (entryFrame m #[(.ref wVisibility_NOT_VISIBLE)] 1)) t := fun t k => castTop (own_ef2_R m wVisibility_NOT_VISIBLE) k
  obtain ⟨cq1, kq1, q1a, q1b, q1c⟩ := isOf hZ e0 E_wVisibility_NOT_VISIBLE
  obtain ⟨_, _, ⟨T1, L1, k1, n1⟩, -, X1, ⟨Lc1, hQ1, l1, y1, z1⟩, st1⟩ := X0.virtualBackUp hx (x := (⟨"io/authlatch/callers/Visibility", "ordinal", "()I"⟩ : MethodName)) (y := (⟨"java/lang/Enum", "ordinal", "()I"⟩ : MethodName)) (owner := "java/lang/Enum") hown (mvT hZ (hw _ (List.mem_of_getElem? (i := 13) rfl))) (mvT hZ (hw _ (List.mem_of_getElem? (i := 14) rfl))) (mvT hZ (hw _ (List.mem_of_getElem? (i := 15) rfl))) (by decide) (mvT hZ (hw _ (List.mem_of_getElem? (i := 17) rfl))) (mvT hZ (hw _ (List.mem_of_getElem? (i := 16) rfl))) (backOf (W := 0) (own_r3_19 l Z a0 hw [] wVisibility_UNDEFINED wVisibility_VISIBLE wVisibility_USER_MANAGED_VISIBLE wVisibility_NOT_VISIBLE wVisibility_USER_MANAGED_NOT_VISIBLE h0 n0 Z0 F ) hZ (hw _ (List.mem_of_getElem? (i := 19) rfl)) (hw _ (List.mem_of_getElem? (i := 18) rfl)) (by decide) (by decide)) q1a q1c (g := (mkF m 1 #[.val (.ref wVisibility_NOT_VISIBLE)] [(.ref wVisibility_NOT_VISIBLE)])) rfl (by rw [hml]; rfl) (Steps.refl _) (argsL := []) (rest := []) (lenOf own_pd1 rfl) rfl (by show 2 * 0 + _ ≤ _; exact Nat.le_of_eq rfl) (hb hby own_d2_1) (fun _ _ => ⟨rfl, e0, (by decide : 0 + 0 ≤ _), (by decide : 0 + 0 ≤ _)⟩)
  dsimp only [Pt.U, Pt.locs, Pt.cells, Pt.slots] at X1 l1 y1 z1 st1 hQ1
  subst l1 y1 z1
  obtain ⟨rfl, N1q, e1⟩ := hQ1
  have N1 := Fr.app N0 N1q
  obtain ⟨fs, hr, hrun, hended, hW, hsame⟩ := X1.leave (v := some (.int (3 : Int32))) (fun h => by rw [Bd.returns] at h; cases h)
  refine ⟨_, _, pre0 _ ?_, hrun, hended, _, _, rfl, ?_, ⟨_, rfl⟩, hW, hsame.mono (by decide) (by decide)⟩
  · show Steps p.tables e below (s₁.setTop (mkF m 0 #[.val (.ref wVisibility_NOT_VISIBLE)] [])) _
    refine XS.aloadN X0.here hx rfl (hb hby own_d2_0) rfl rfl ?_
    show Steps p.tables e below (s₁.setTop (mkF m 1 #[.val (.ref wVisibility_NOT_VISIBLE)] [(.ref wVisibility_NOT_VISIBLE)])) _
    refine st1.trans ?_
    show Steps p.tables e below (T1.setTop (mkF m 4 #[.val (.ref wVisibility_NOT_VISIBLE)] [(.int (3 : Int32))])) _
    exact retI X1 hx Bd.returns (hb hby own_d2_4) hr
  · exact ⟨rfl, N1, e1⟩
set_option maxRecDepth 65536 in
set_option maxHeartbeats 40000000 in
theorem own_r4_20 (l : Launch) (Z : State) (a0 : Array Value) (hw : ∀ d ∈ tables_1, d.before a0 Z = true) (ws : List Jvm.Cond) (wVisibility_UNDEFINED : Addr) (wVisibility_VISIBLE : Addr) (wVisibility_USER_MANAGED_VISIBLE : Addr) (wVisibility_NOT_VISIBLE : Addr) (wVisibility_USER_MANAGED_NOT_VISIBLE : Addr) (h0 : Heap) (n0 : Nat) (Z0 : n0 ≤ h0.size) (F : own_W Z h0 wVisibility_UNDEFINED wVisibility_VISIBLE wVisibility_USER_MANAGED_VISIBLE wVisibility_NOT_VISIBLE wVisibility_USER_MANAGED_NOT_VISIBLE)   :
    MetFree l (⟨"io/authlatch/callers/Visibility", "served", "()Z"⟩ : MethodName) (head1 (Jvm.Cond.code (⟨"io/authlatch/callers/Visibility", "served", "()Z"⟩ : MethodName) prog_32_method_7_code 1 (some .boolean) :: ws) ({ frames := 0, cells := 0, slots := 0, locals := 0 } : Room)) (fun a U => a = #[(.ref wVisibility_NOT_VISIBLE)] ∧ Z.Warmed39 U.vm ∧ U.heap = h0) (fun _ _ _ _ _ => True) (fun _ U o U' => ∃ v L, o = .returned v ∧ own_Q (.int (0 : Int32)) h0 n0 v U'.heap L ∧ FrameEnd U o U' L ({ frames := 0, cells := 0, slots := 0, locals := 0 } : Room).cells ({ frames := 0, cells := 0, slots := 0, locals := 0 } : Room).slots) := by
  obtain ⟨S_wVisibility_UNDEFINED, E_wVisibility_UNDEFINED, S_wVisibility_VISIBLE, E_wVisibility_VISIBLE, S_wVisibility_USER_MANAGED_VISIBLE, E_wVisibility_USER_MANAGED_VISIBLE, S_wVisibility_NOT_VISIBLE, E_wVisibility_NOT_VISIBLE, S_wVisibility_USER_MANAGED_NOT_VISIBLE, E_wVisibility_USER_MANAGED_NOT_VISIBLE, F_wVisibility_UNDEFINED_ordinal, F_wVisibility_VISIBLE_ordinal, F_wVisibility_USER_MANAGED_VISIBLE_ordinal, F_wVisibility_NOT_VISIBLE_ordinal, F_wVisibility_USER_MANAGED_NOT_VISIBLE_ordinal, ne_wVisibility_UNDEFINED_wVisibility_VISIBLE, ne_wVisibility_UNDEFINED_wVisibility_USER_MANAGED_VISIBLE, ne_wVisibility_UNDEFINED_wVisibility_NOT_VISIBLE, ne_wVisibility_UNDEFINED_wVisibility_USER_MANAGED_NOT_VISIBLE, ne_wVisibility_VISIBLE_wVisibility_USER_MANAGED_VISIBLE, ne_wVisibility_VISIBLE_wVisibility_NOT_VISIBLE, ne_wVisibility_VISIBLE_wVisibility_USER_MANAGED_NOT_VISIBLE, ne_wVisibility_USER_MANAGED_VISIBLE_wVisibility_NOT_VISIBLE, ne_wVisibility_USER_MANAGED_VISIBLE_wVisibility_USER_MANAGED_NOT_VISIBLE, ne_wVisibility_NOT_VISIBLE_wVisibility_USER_MANAGED_NOT_VISIBLE⟩ := id F
  refine MetFree.of_bodySF (plainFor_of_name own_pn_Visibility) hisR ?_
  intro p e s m args below meth c s₁ Bd hml0 hP hK
  obtain ⟨rfl, hZ, hh⟩ := hP
  have hx := Bd.exec
  have hby := Bd.bytes
  have hml : c.maxLocals = 1 := hml0
  have hown : s.vm.findClass "io/authlatch/callers/Visibility" = some m.cls := findClass_of_methodNamed Bd.named
  have X0 : Stand p l e ({ frames := 0, cells := 0, slots := 0, locals := 0 } : Room) s m #[(.ref wVisibility_NOT_VISIBLE)] below meth c s₁ [] 0 0 := Stand.of_body Bd
  have e0 : s₁.heap = h0 := by rw [← hh, Bd.state]; rfl
  have N0 := Fr.nil n0
  have pre0 : ∀ t, Steps p.tables e below (s₁.setTop (mkF m 0 #[.val (.ref wVisibility_NOT_VISIBLE)] [])) t → Steps p.tables e below (s₁.setTop (entryFrame m #[(.ref wVisibility_NOT_VISIBLE)] 1)) t := fun t k => castTop (own_ef4_R m wVisibility_NOT_VISIBLE) k
  obtain ⟨T1, X1, e1, st1⟩ := getS2 X0 hx hZ hown (host := "") (Or.inl (hw _ (List.mem_of_getElem? (i := 27) rfl))) Via.refl e0 S_wVisibility_VISIBLE (g := (mkF m 1 #[.val (.ref wVisibility_NOT_VISIBLE)] [(.ref wVisibility_NOT_VISIBLE)])) rfl (hb hby own_d4_1)
  obtain ⟨T2, X2, e2, st2⟩ := getS2 X1 hx hZ hown (host := "") (Or.inl (hw _ (List.mem_of_getElem? (i := 29) rfl))) Via.refl e1 S_wVisibility_USER_MANAGED_VISIBLE (g := (mkF m 8 #[.val (.ref wVisibility_NOT_VISIBLE)] [(.ref wVisibility_NOT_VISIBLE)])) rfl (hb hby own_d4_8)
  obtain ⟨fs, hr, hrun, hended, hW, hsame⟩ := X2.leave (v := some (.int (0 : Int32))) (fun h => by rw [Bd.returns] at h; cases h)
  refine ⟨_, _, pre0 _ ?_, hrun, hended, _, _, rfl, ?_, ⟨_, rfl⟩, hW, hsame.mono (by decide) (by decide)⟩
  · show Steps p.tables e below (s₁.setTop (mkF m 0 #[.val (.ref wVisibility_NOT_VISIBLE)] [])) _
    refine XS.aloadN X0.here hx rfl (hb hby own_d4_0) rfl rfl ?_
    show Steps p.tables e below (s₁.setTop (mkF m 1 #[.val (.ref wVisibility_NOT_VISIBLE)] [(.ref wVisibility_NOT_VISIBLE)])) _
    refine st1 _ ?_
    show Steps p.tables e below (T1.setTop (mkF m 4 #[.val (.ref wVisibility_NOT_VISIBLE)] [(.ref wVisibility_VISIBLE), (.ref wVisibility_NOT_VISIBLE)])) _
    refine Jvm.RoadKit.acmp (g := (mkF m 4 #[.val (.ref wVisibility_NOT_VISIBLE)] [(.ref wVisibility_VISIBLE), (.ref wVisibility_NOT_VISIBLE)])) X1 hx rfl rfl rfl (pc0 := 4) (pc' := 7) (same := false) rfl (hb hby own_d4_4) rfl (decide_eq_false fun q => (Ne.symm ne_wVisibility_VISIBLE_wVisibility_NOT_VISIBLE) (Value.ref.inj q)) (by decide) (by decide) ?_
    show Steps p.tables e below (T1.setTop (mkF m 7 #[.val (.ref wVisibility_NOT_VISIBLE)] [])) _
    refine XS.aloadN X1.here hx rfl (hb hby own_d4_7) rfl rfl ?_
    show Steps p.tables e below (T1.setTop (mkF m 8 #[.val (.ref wVisibility_NOT_VISIBLE)] [(.ref wVisibility_NOT_VISIBLE)])) _
    refine st2 _ ?_
    show Steps p.tables e below (T2.setTop (mkF m 11 #[.val (.ref wVisibility_NOT_VISIBLE)] [(.ref wVisibility_USER_MANAGED_VISIBLE), (.ref wVisibility_NOT_VISIBLE)])) _
    refine Jvm.RoadKit.acmp (g := (mkF m 11 #[.val (.ref wVisibility_NOT_VISIBLE)] [(.ref wVisibility_USER_MANAGED_VISIBLE), (.ref wVisibility_NOT_VISIBLE)])) X2 hx rfl rfl rfl (pc0 := 11) (pc' := 18) (same := false) rfl (hb hby own_d4_11) rfl (decide_eq_false fun q => (Ne.symm ne_wVisibility_USER_MANAGED_VISIBLE_wVisibility_NOT_VISIBLE) (Value.ref.inj q)) (by decide) (by decide) ?_
    show Steps p.tables e below (T2.setTop (mkF m 18 #[.val (.ref wVisibility_NOT_VISIBLE)] [])) _
    refine XS.iconst X2.here hx rfl (hb hby own_d4_18) ?_
    show Steps p.tables e below (T2.setTop (mkF m 19 #[.val (.ref wVisibility_NOT_VISIBLE)] [(.int (0 : Int32))])) _
    exact retN X2 hx (t := .boolean) Bd.returns (by simp) (hb hby own_d4_19) hr
  · exact ⟨rfl, N0, e2⟩
set_option maxRecDepth 65536 in
set_option maxHeartbeats 40000000 in
theorem own_r0_k3 (l : Launch) (Z : State) (a0 : Array Value) (hw : ∀ d ∈ tables_1, d.before a0 Z = true) (ws : List Jvm.Cond) (wVisibility_UNDEFINED : Addr) (wVisibility_VISIBLE : Addr) (wVisibility_USER_MANAGED_VISIBLE : Addr) (wVisibility_NOT_VISIBLE : Addr) (wVisibility_USER_MANAGED_NOT_VISIBLE : Addr) (h0 : Heap) (n0 : Nat) (Z0 : n0 ≤ h0.size) (F : own_W Z h0 wVisibility_UNDEFINED wVisibility_VISIBLE wVisibility_USER_MANAGED_VISIBLE wVisibility_NOT_VISIBLE wVisibility_USER_MANAGED_NOT_VISIBLE) (i0 : Int32) (hk : ((i0 &&& (2147483647 : Int32)) % (5 : Int32)) = (3 : Int32)) :
    MetFree l x (head1 (Jvm.Cond.code x code maxLocals ret :: ws) room_1) (fun a U => a = #[(.int i0)] ∧ Z.Warmed39 U.vm ∧ U.heap = h0) (fun _ _ _ _ _ => True) (fun _ U o U' => ∃ v L, o = .returned v ∧ own_Q (.int (1 : Int32)) h0 n0 v U'.heap L ∧ FrameEnd U o U' L room_1.cells room_1.slots) := by
  obtain ⟨S_wVisibility_UNDEFINED, E_wVisibility_UNDEFINED, S_wVisibility_VISIBLE, E_wVisibility_VISIBLE, S_wVisibility_USER_MANAGED_VISIBLE, E_wVisibility_USER_MANAGED_VISIBLE, S_wVisibility_NOT_VISIBLE, E_wVisibility_NOT_VISIBLE, S_wVisibility_USER_MANAGED_NOT_VISIBLE, E_wVisibility_USER_MANAGED_NOT_VISIBLE, F_wVisibility_UNDEFINED_ordinal, F_wVisibility_VISIBLE_ordinal, F_wVisibility_USER_MANAGED_VISIBLE_ordinal, F_wVisibility_NOT_VISIBLE_ordinal, F_wVisibility_USER_MANAGED_NOT_VISIBLE_ordinal, ne_wVisibility_UNDEFINED_wVisibility_VISIBLE, ne_wVisibility_UNDEFINED_wVisibility_USER_MANAGED_VISIBLE, ne_wVisibility_UNDEFINED_wVisibility_NOT_VISIBLE, ne_wVisibility_UNDEFINED_wVisibility_USER_MANAGED_NOT_VISIBLE, ne_wVisibility_VISIBLE_wVisibility_USER_MANAGED_VISIBLE, ne_wVisibility_VISIBLE_wVisibility_NOT_VISIBLE, ne_wVisibility_VISIBLE_wVisibility_USER_MANAGED_NOT_VISIBLE, ne_wVisibility_USER_MANAGED_VISIBLE_wVisibility_NOT_VISIBLE, ne_wVisibility_USER_MANAGED_VISIBLE_wVisibility_USER_MANAGED_NOT_VISIBLE, ne_wVisibility_NOT_VISIBLE_wVisibility_USER_MANAGED_NOT_VISIBLE⟩ := id F
  refine MetFree.of_bodySF (plainFor_of_name own_pn_VisibilityServedPinLaw) hisR ?_
  intro p e s m args below meth c s₁ Bd hml0 hP hK
  obtain ⟨rfl, hZ, hh⟩ := hP
  have hx := Bd.exec
  have hby := Bd.bytes
  have hml : c.maxLocals = 4 := hml0
  have hown : s.vm.findClass "io/authlatch/callers/VisibilityServedPinLaw" = some m.cls := findClass_of_methodNamed Bd.named
  have X0 : Stand p l e room_1 s m #[(.int i0)] below meth c s₁ [] 0 0 := Stand.of_body Bd
  have e0 : s₁.heap = h0 := by rw [← hh, Bd.state]; rfl
  have N0 := Fr.nil n0
  have pre0 : ∀ t, Steps p.tables e below (s₁.setTop (mkF m 0 #[.val (.int i0), .unset, .unset, .unset] [])) t → Steps p.tables e below (s₁.setTop (entryFrame m #[(.int i0)] maxLocals)) t := fun t k => castTop (own_ef0_I m i0) k
  obtain ⟨_, _, ⟨T1, L1, k1, n1⟩, -, X1, ⟨Lc1, hQ1, l1, y1, z1⟩, st1⟩ := Jvm.LawKit.callS X0 hx (y := (⟨"io/authlatch/callers/VisibilityServedPinLaw", "pick", "(I)Lio/authlatch/callers/Visibility;"⟩ : MethodName)) hown (mvT hZ (hw _ (List.mem_of_getElem? (i := 1) rfl))) (mvT hZ (hw _ (List.mem_of_getElem? (i := 2) rfl))) (mvT hZ (hw _ (List.mem_of_getElem? (i := 3) rfl))) (mvT hZ (hw _ (List.mem_of_getElem? (i := 4) rfl))) (by decide) (backOf (W := 0) (own_r1_17 l Z a0 hw [] wVisibility_UNDEFINED wVisibility_VISIBLE wVisibility_USER_MANAGED_VISIBLE wVisibility_NOT_VISIBLE wVisibility_USER_MANAGED_NOT_VISIBLE h0 n0 Z0 F ) hZ (hw _ (List.mem_of_getElem? (i := 4) rfl)) (hw _ (List.mem_of_getElem? (i := 3) rfl)) (by decide) (by decide)) (g := (mkF m 8 #[.val (.int i0), .val (.int (3 : Int32)), .unset, .unset] [(.int (3 : Int32))])) rfl (by rw [hml]; rfl) (argsL := [(.int (3 : Int32))]) (rest := []) (lenOf own_pd0 rfl) rfl (by show 2 * 0 + _ ≤ _; exact Nat.le_of_eq rfl) (hb hby at_8) (fun _ _ => ⟨rfl, e0, (by decide : 0 + 0 ≤ _), (by decide : 0 + 0 ≤ _)⟩)
  dsimp only [Pt.U, Pt.locs, Pt.cells, Pt.slots] at X1 l1 y1 z1 st1 hQ1
  subst l1 y1 z1
  obtain ⟨rfl, N1q, e1⟩ := hQ1
  have N1 := Fr.app N0 N1q
  obtain ⟨cq2, kq2, q2a, q2b, q2c⟩ := isOf hZ e1 E_wVisibility_NOT_VISIBLE
  obtain ⟨_, _, ⟨T2, L2, k2, n2⟩, -, X2, ⟨Lc2, hQ2, l2, y2, z2⟩, st2⟩ := X1.virtualBack hx (y := (⟨"io/authlatch/callers/Visibility", "number", "()I"⟩ : MethodName)) (z := (⟨"io/authlatch/callers/Visibility", "number", "()I"⟩ : MethodName)) hown (mvT hZ (hw _ (List.mem_of_getElem? (i := 8) rfl))) (mvT hZ (hw _ (List.mem_of_getElem? (i := 9) rfl))) (notFace_of_selects (args := #[]) (mvT hZ (hw _ (List.mem_of_getElem? (i := 11) rfl)))) (mvT hZ (hw _ (List.mem_of_getElem? (i := 11) rfl))) (mvT hZ (hw _ (List.mem_of_getElem? (i := 10) rfl))) (by decide) (backOf (W := 0) (own_r2_18 l Z a0 hw [] wVisibility_UNDEFINED wVisibility_VISIBLE wVisibility_USER_MANAGED_VISIBLE wVisibility_NOT_VISIBLE wVisibility_USER_MANAGED_NOT_VISIBLE h0 n0 Z0 F ) hZ (hw _ (List.mem_of_getElem? (i := 12) rfl)) (hw _ (List.mem_of_getElem? (i := 6) rfl)) (by decide) (by decide)) q2a q2c (g := (mkF m 29 #[.val (.int i0), .val (.int (3 : Int32)), .val (.ref wVisibility_NOT_VISIBLE), .val (.int (0 : Int32))] [(.ref wVisibility_NOT_VISIBLE)])) rfl (by rw [hml]; rfl) (Steps.refl _) (argsL := []) (rest := []) (lenOf own_pd1 rfl) rfl (by show 2 * 0 + _ ≤ _; exact Nat.le_of_eq rfl) (hb hby at_29) (fun _ _ => ⟨rfl, e1, (by decide : 0 + 0 ≤ _), (by decide : 0 + 0 ≤ _)⟩)
  dsimp only [Pt.U, Pt.locs, Pt.cells, Pt.slots] at X2 l2 y2 z2 st2 hQ2
  subst l2 y2 z2
  obtain ⟨rfl, N2q, e2⟩ := hQ2
  have N2 := Fr.app N1 N2q
  obtain ⟨cq3, kq3, q3a, q3b, q3c⟩ := isOf hZ e2 E_wVisibility_NOT_VISIBLE
  obtain ⟨_, _, ⟨T3, L3, k3, n3⟩, -, X3, ⟨Lc3, hQ3, l3, y3, z3⟩, st3⟩ := X2.virtualBack hx (y := (⟨"io/authlatch/callers/Visibility", "served", "()Z"⟩ : MethodName)) (z := (⟨"io/authlatch/callers/Visibility", "served", "()Z"⟩ : MethodName)) hown (mvT hZ (hw _ (List.mem_of_getElem? (i := 22) rfl))) (mvT hZ (hw _ (List.mem_of_getElem? (i := 23) rfl))) (notFace_of_selects (args := #[]) (mvT hZ (hw _ (List.mem_of_getElem? (i := 25) rfl)))) (mvT hZ (hw _ (List.mem_of_getElem? (i := 25) rfl))) (mvT hZ (hw _ (List.mem_of_getElem? (i := 24) rfl))) (by decide) (backOf (W := 0) (own_r4_20 l Z a0 hw [] wVisibility_UNDEFINED wVisibility_VISIBLE wVisibility_USER_MANAGED_VISIBLE wVisibility_NOT_VISIBLE wVisibility_USER_MANAGED_NOT_VISIBLE h0 n0 Z0 F ) hZ (hw _ (List.mem_of_getElem? (i := 26) rfl)) (hw _ (List.mem_of_getElem? (i := 6) rfl)) (by decide) (by decide)) q3a q3c (g := (mkF m 37 #[.val (.int i0), .val (.int (3 : Int32)), .val (.ref wVisibility_NOT_VISIBLE), .val (.int (0 : Int32))] [(.ref wVisibility_NOT_VISIBLE)])) rfl (by rw [hml]; rfl) (Steps.refl _) (argsL := []) (rest := []) (lenOf own_pd2 rfl) rfl (by show 2 * 0 + _ ≤ _; exact Nat.le_of_eq rfl) (hb hby at_37) (fun _ _ => ⟨rfl, e2, (by decide : 0 + 0 ≤ _), (by decide : 0 + 0 ≤ _)⟩)
  dsimp only [Pt.U, Pt.locs, Pt.cells, Pt.slots] at X3 l3 y3 z3 st3 hQ3
  subst l3 y3 z3
  obtain ⟨rfl, N3q, e3⟩ := hQ3
  have N3 := Fr.app N2 N3q
  obtain ⟨fs, hr, hrun, hended, hW, hsame⟩ := X3.leave (v := some (.int (1 : Int32))) (fun h => by rw [Bd.returns] at h; cases h)
  refine ⟨_, _, pre0 _ ?_, hrun, hended, _, _, rfl, ?_, ⟨_, rfl⟩, hW, hsame.mono (by decide) (by decide)⟩
  · show Steps p.tables e below (s₁.setTop (mkF m 0 #[.val (.int i0), .unset, .unset, .unset] [])) _
    refine XS.iloadN X0.here hx rfl (hb hby at_0) rfl ?_
    show Steps p.tables e below (s₁.setTop (mkF m 1 #[.val (.int i0), .unset, .unset, .unset] [(.int i0)])) _
    refine X0.ldcInt hx hown (mvT hZ (hw _ (List.mem_of_getElem? (i := 0) rfl))) (g := (mkF m 1 #[.val (.int i0), .unset, .unset, .unset] [(.int i0)])) rfl (hb hby at_1) _ ?_
    show Steps p.tables e below (s₁.setTop (mkF m 3 #[.val (.int i0), .unset, .unset, .unset] [(.int (2147483647 : Int32)), (.int i0)])) _
    refine XS.iand X0.here hx rfl (hb hby at_3) rfl ?_
    show Steps p.tables e below (s₁.setTop (mkF m 4 #[.val (.int i0), .unset, .unset, .unset] [(.int (i0 &&& (2147483647 : Int32)))])) _
    refine XS.iconst X0.here hx rfl (hb hby at_4) ?_
    show Steps p.tables e below (s₁.setTop (mkF m 5 #[.val (.int i0), .unset, .unset, .unset] [(.int (5 : Int32)), (.int (i0 &&& (2147483647 : Int32)))])) _
    refine iremM (g := (mkF m 5 #[.val (.int i0), .unset, .unset, .unset] [(.int (5 : Int32)), (.int (i0 &&& (2147483647 : Int32)))])) X0 hx rfl (hb hby at_5) rfl (by decide) ?_
    show Steps p.tables e below (s₁.setTop (mkF m 6 #[.val (.int i0), .unset, .unset, .unset] [(.int ((i0 &&& (2147483647 : Int32)) % (5 : Int32)))])) _
    rw [hk]
    show Steps p.tables e below (s₁.setTop (mkF m 6 #[.val (.int i0), .unset, .unset, .unset] [(.int (3 : Int32))])) _
    refine XS.istoreN X0.here hx rfl (hb hby at_6) rfl (l' := #[.val (.int i0), .val (.int (3 : Int32)), .unset, .unset]) rfl ?_
    show Steps p.tables e below (s₁.setTop (mkF m 7 #[.val (.int i0), .val (.int (3 : Int32)), .unset, .unset] [])) _
    refine XS.iloadN X0.here hx rfl (hb hby at_7) rfl ?_
    show Steps p.tables e below (s₁.setTop (mkF m 8 #[.val (.int i0), .val (.int (3 : Int32)), .unset, .unset] [(.int (3 : Int32))])) _
    refine st1 _ ?_
    show Steps p.tables e below (T1.setTop (mkF m 11 #[.val (.int i0), .val (.int (3 : Int32)), .unset, .unset] [(.ref wVisibility_NOT_VISIBLE)])) _
    refine XS.astoreN X1.here hx rfl (hb hby at_11) rfl rfl (l' := #[.val (.int i0), .val (.int (3 : Int32)), .val (.ref wVisibility_NOT_VISIBLE), .unset]) rfl ?_
    show Steps p.tables e below (T1.setTop (mkF m 12 #[.val (.int i0), .val (.int (3 : Int32)), .val (.ref wVisibility_NOT_VISIBLE), .unset] [])) _
    refine XS.iloadN X1.here hx rfl (hb hby at_12) rfl ?_
    show Steps p.tables e below (T1.setTop (mkF m 13 #[.val (.int i0), .val (.int (3 : Int32)), .val (.ref wVisibility_NOT_VISIBLE), .unset] [(.int (3 : Int32))])) _
    refine XS.iconst X1.here hx rfl (hb hby at_13) ?_
    show Steps p.tables e below (T1.setTop (mkF m 14 #[.val (.int i0), .val (.int (3 : Int32)), .val (.ref wVisibility_NOT_VISIBLE), .unset] [(.int (1 : Int32)), (.int (3 : Int32))])) _
    refine XS.icmpNo X1.here hx rfl (hb hby at_14) rfl (feq (by decide : ¬ ((3 : Int32) = (1 : Int32)))).1 ?_
    show Steps p.tables e below (T1.setTop (mkF m 17 #[.val (.int i0), .val (.int (3 : Int32)), .val (.ref wVisibility_NOT_VISIBLE), .unset] [])) _
    refine XS.iloadN X1.here hx rfl (hb hby at_17) rfl ?_
    show Steps p.tables e below (T1.setTop (mkF m 18 #[.val (.int i0), .val (.int (3 : Int32)), .val (.ref wVisibility_NOT_VISIBLE), .unset] [(.int (3 : Int32))])) _
    refine XS.iconst X1.here hx rfl (hb hby at_18) ?_
    show Steps p.tables e below (T1.setTop (mkF m 19 #[.val (.int i0), .val (.int (3 : Int32)), .val (.ref wVisibility_NOT_VISIBLE), .unset] [(.int (2 : Int32)), (.int (3 : Int32))])) _
    refine XS.icmpYes X1.here hx rfl (pc0 := 19) (pc' := 26) rfl (hb hby at_19) rfl (feq (by decide : ¬ ((3 : Int32) = (2 : Int32)))).2 (by decide) (by decide) ?_
    show Steps p.tables e below (T1.setTop (mkF m 26 #[.val (.int i0), .val (.int (3 : Int32)), .val (.ref wVisibility_NOT_VISIBLE), .unset] [])) _
    refine XS.iconst X1.here hx rfl (hb hby at_26) ?_
    show Steps p.tables e below (T1.setTop (mkF m 27 #[.val (.int i0), .val (.int (3 : Int32)), .val (.ref wVisibility_NOT_VISIBLE), .unset] [(.int (0 : Int32))])) _
    refine XS.istoreN X1.here hx rfl (hb hby at_27) rfl (l' := #[.val (.int i0), .val (.int (3 : Int32)), .val (.ref wVisibility_NOT_VISIBLE), .val (.int (0 : Int32))]) rfl ?_
    show Steps p.tables e below (T1.setTop (mkF m 28 #[.val (.int i0), .val (.int (3 : Int32)), .val (.ref wVisibility_NOT_VISIBLE), .val (.int (0 : Int32))] [])) _
    refine XS.aloadN X1.here hx rfl (hb hby at_28) rfl rfl ?_
    show Steps p.tables e below (T1.setTop (mkF m 29 #[.val (.int i0), .val (.int (3 : Int32)), .val (.ref wVisibility_NOT_VISIBLE), .val (.int (0 : Int32))] [(.ref wVisibility_NOT_VISIBLE)])) _
    refine st2.trans ?_
    show Steps p.tables e below (T2.setTop (mkF m 32 #[.val (.int i0), .val (.int (3 : Int32)), .val (.ref wVisibility_NOT_VISIBLE), .val (.int (0 : Int32))] [(.int (3 : Int32))])) _
    refine XS.iloadN X2.here hx rfl (hb hby at_32) rfl ?_
    show Steps p.tables e below (T2.setTop (mkF m 33 #[.val (.int i0), .val (.int (3 : Int32)), .val (.ref wVisibility_NOT_VISIBLE), .val (.int (0 : Int32))] [(.int (3 : Int32)), (.int (3 : Int32))])) _
    refine XS.icmpNo X2.here hx rfl (hb hby at_33) rfl (teq (by decide : (3 : Int32) = (3 : Int32))).2 ?_
    show Steps p.tables e below (T2.setTop (mkF m 36 #[.val (.int i0), .val (.int (3 : Int32)), .val (.ref wVisibility_NOT_VISIBLE), .val (.int (0 : Int32))] [])) _
    refine XS.aloadN X2.here hx rfl (hb hby at_36) rfl rfl ?_
    show Steps p.tables e below (T2.setTop (mkF m 37 #[.val (.int i0), .val (.int (3 : Int32)), .val (.ref wVisibility_NOT_VISIBLE), .val (.int (0 : Int32))] [(.ref wVisibility_NOT_VISIBLE)])) _
    refine st3.trans ?_
    show Steps p.tables e below (T3.setTop (mkF m 40 #[.val (.int i0), .val (.int (3 : Int32)), .val (.ref wVisibility_NOT_VISIBLE), .val (.int (0 : Int32))] [(.int (0 : Int32))])) _
    refine XS.iloadN X3.here hx rfl (hb hby at_40) rfl ?_
    show Steps p.tables e below (T3.setTop (mkF m 41 #[.val (.int i0), .val (.int (3 : Int32)), .val (.ref wVisibility_NOT_VISIBLE), .val (.int (0 : Int32))] [(.int (0 : Int32)), (.int (0 : Int32))])) _
    refine XS.icmpNo X3.here hx rfl (hb hby at_41) rfl (teq (by decide : (0 : Int32) = (0 : Int32))).2 ?_
    show Steps p.tables e below (T3.setTop (mkF m 44 #[.val (.int i0), .val (.int (3 : Int32)), .val (.ref wVisibility_NOT_VISIBLE), .val (.int (0 : Int32))] [])) _
    refine XS.iconst X3.here hx rfl (hb hby at_44) ?_
    show Steps p.tables e below (T3.setTop (mkF m 45 #[.val (.int i0), .val (.int (3 : Int32)), .val (.ref wVisibility_NOT_VISIBLE), .val (.int (0 : Int32))] [(.int (1 : Int32))])) _
    refine XS.goto X3.here hx rfl (pc0 := 45) (pc' := 49) rfl (hb hby at_45) (by decide) (by decide) ?_
    show Steps p.tables e below (T3.setTop (mkF m 49 #[.val (.int i0), .val (.int (3 : Int32)), .val (.ref wVisibility_NOT_VISIBLE), .val (.int (0 : Int32))] [(.int (1 : Int32))])) _
    exact retN X3 hx (t := .boolean) Bd.returns (by simp) (hb hby at_49) hr
  · exact ⟨rfl, N3, e3⟩
theorem own_d1_35 : decode method_3_code 35 = .ok (.getstatic 37, 3) := by decide +kernel
theorem own_d1_38 : decode method_3_code 38 = .ok (.areturn, 1) := by decide +kernel
set_option maxRecDepth 65536 in
set_option maxHeartbeats 40000000 in
theorem own_r1_22 (l : Launch) (Z : State) (a0 : Array Value) (hw : ∀ d ∈ tables_1, d.before a0 Z = true) (ws : List Jvm.Cond) (wVisibility_UNDEFINED : Addr) (wVisibility_VISIBLE : Addr) (wVisibility_USER_MANAGED_VISIBLE : Addr) (wVisibility_NOT_VISIBLE : Addr) (wVisibility_USER_MANAGED_NOT_VISIBLE : Addr) (h0 : Heap) (n0 : Nat) (Z0 : n0 ≤ h0.size) (F : own_W Z h0 wVisibility_UNDEFINED wVisibility_VISIBLE wVisibility_USER_MANAGED_VISIBLE wVisibility_NOT_VISIBLE wVisibility_USER_MANAGED_NOT_VISIBLE)   :
    MetFree l (⟨"io/authlatch/callers/VisibilityServedPinLaw", "pick", "(I)Lio/authlatch/callers/Visibility;"⟩ : MethodName) (head1 (Jvm.Cond.code (⟨"io/authlatch/callers/VisibilityServedPinLaw", "pick", "(I)Lio/authlatch/callers/Visibility;"⟩ : MethodName) method_3_code 1 (some (.object "io/authlatch/callers/Visibility")) :: ws) ({ frames := 0, cells := 0, slots := 0, locals := 0 } : Room)) (fun a U => a = #[(.int (4 : Int32))] ∧ Z.Warmed39 U.vm ∧ U.heap = h0) (fun _ _ _ _ _ => True) (fun _ U o U' => ∃ v L, o = .returned v ∧ own_Q (.ref wVisibility_USER_MANAGED_NOT_VISIBLE) h0 n0 v U'.heap L ∧ FrameEnd U o U' L ({ frames := 0, cells := 0, slots := 0, locals := 0 } : Room).cells ({ frames := 0, cells := 0, slots := 0, locals := 0 } : Room).slots) := by
  obtain ⟨S_wVisibility_UNDEFINED, E_wVisibility_UNDEFINED, S_wVisibility_VISIBLE, E_wVisibility_VISIBLE, S_wVisibility_USER_MANAGED_VISIBLE, E_wVisibility_USER_MANAGED_VISIBLE, S_wVisibility_NOT_VISIBLE, E_wVisibility_NOT_VISIBLE, S_wVisibility_USER_MANAGED_NOT_VISIBLE, E_wVisibility_USER_MANAGED_NOT_VISIBLE, F_wVisibility_UNDEFINED_ordinal, F_wVisibility_VISIBLE_ordinal, F_wVisibility_USER_MANAGED_VISIBLE_ordinal, F_wVisibility_NOT_VISIBLE_ordinal, F_wVisibility_USER_MANAGED_NOT_VISIBLE_ordinal, ne_wVisibility_UNDEFINED_wVisibility_VISIBLE, ne_wVisibility_UNDEFINED_wVisibility_USER_MANAGED_VISIBLE, ne_wVisibility_UNDEFINED_wVisibility_NOT_VISIBLE, ne_wVisibility_UNDEFINED_wVisibility_USER_MANAGED_NOT_VISIBLE, ne_wVisibility_VISIBLE_wVisibility_USER_MANAGED_VISIBLE, ne_wVisibility_VISIBLE_wVisibility_NOT_VISIBLE, ne_wVisibility_VISIBLE_wVisibility_USER_MANAGED_NOT_VISIBLE, ne_wVisibility_USER_MANAGED_VISIBLE_wVisibility_NOT_VISIBLE, ne_wVisibility_USER_MANAGED_VISIBLE_wVisibility_USER_MANAGED_NOT_VISIBLE, ne_wVisibility_NOT_VISIBLE_wVisibility_USER_MANAGED_NOT_VISIBLE⟩ := id F
  refine MetFree.of_bodySF (plainFor_of_name own_pn_VisibilityServedPinLaw) hisR ?_
  intro p e s m args below meth c s₁ Bd hml0 hP hK
  obtain ⟨rfl, hZ, hh⟩ := hP
  have hx := Bd.exec
  have hby := Bd.bytes
  have hml : c.maxLocals = 1 := hml0
  have hown : s.vm.findClass "io/authlatch/callers/VisibilityServedPinLaw" = some m.cls := findClass_of_methodNamed Bd.named
  have X0 : Stand p l e ({ frames := 0, cells := 0, slots := 0, locals := 0 } : Room) s m #[(.int (4 : Int32))] below meth c s₁ [] 0 0 := Stand.of_body Bd
  have e0 : s₁.heap = h0 := by rw [← hh, Bd.state]; rfl
  have N0 := Fr.nil n0
  have pre0 : ∀ t, Steps p.tables e below (s₁.setTop (mkF m 0 #[.val (.int (4 : Int32))] [])) t → Steps p.tables e below (s₁.setTop (entryFrame m #[(.int (4 : Int32))] 1)) t := fun t k => castTop (own_ef1_I m (4 : Int32)) k
  obtain ⟨T1, X1, e1, st1⟩ := getS2 X0 hx hZ hown (host := "") (Or.inl (hw _ (List.mem_of_getElem? (i := 34) rfl))) Via.refl e0 S_wVisibility_USER_MANAGED_NOT_VISIBLE (g := (mkF m 35 #[.val (.int (4 : Int32))] [])) rfl (hb hby own_d1_35)
  obtain ⟨fs, hr, hrun, hended, hW, hsame⟩ := X1.leave (v := some (.ref wVisibility_USER_MANAGED_NOT_VISIBLE)) (fun h => by rw [Bd.returns] at h; cases h)
  refine ⟨_, _, pre0 _ ?_, hrun, hended, _, _, rfl, ?_, ⟨_, rfl⟩, hW, hsame.mono (by decide) (by decide)⟩
  · show Steps p.tables e below (s₁.setTop (mkF m 0 #[.val (.int (4 : Int32))] [])) _
    refine XS.iloadN X0.here hx rfl (hb hby own_d1_0) rfl ?_
    show Steps p.tables e below (s₁.setTop (mkF m 1 #[.val (.int (4 : Int32))] [(.int (4 : Int32))])) _
    refine XS.ifYes X0.here hx rfl (pc0 := 1) (pc' := 8) rfl (hb hby own_d1_1) rfl ((if0 _ _).trans (feq (by decide : ¬ ((4 : Int32) = (0 : Int32)))).2) (by decide) (by decide) ?_
    show Steps p.tables e below (s₁.setTop (mkF m 8 #[.val (.int (4 : Int32))] [])) _
    refine XS.iloadN X0.here hx rfl (hb hby own_d1_8) rfl ?_
    show Steps p.tables e below (s₁.setTop (mkF m 9 #[.val (.int (4 : Int32))] [(.int (4 : Int32))])) _
    refine XS.iconst X0.here hx rfl (hb hby own_d1_9) ?_
    show Steps p.tables e below (s₁.setTop (mkF m 10 #[.val (.int (4 : Int32))] [(.int (1 : Int32)), (.int (4 : Int32))])) _
    refine XS.icmpYes X0.here hx rfl (pc0 := 10) (pc' := 17) rfl (hb hby own_d1_10) rfl (feq (by decide : ¬ ((4 : Int32) = (1 : Int32)))).2 (by decide) (by decide) ?_
    show Steps p.tables e below (s₁.setTop (mkF m 17 #[.val (.int (4 : Int32))] [])) _
    refine XS.iloadN X0.here hx rfl (hb hby own_d1_17) rfl ?_
    show Steps p.tables e below (s₁.setTop (mkF m 18 #[.val (.int (4 : Int32))] [(.int (4 : Int32))])) _
    refine XS.iconst X0.here hx rfl (hb hby own_d1_18) ?_
    show Steps p.tables e below (s₁.setTop (mkF m 19 #[.val (.int (4 : Int32))] [(.int (2 : Int32)), (.int (4 : Int32))])) _
    refine XS.icmpYes X0.here hx rfl (pc0 := 19) (pc' := 26) rfl (hb hby own_d1_19) rfl (feq (by decide : ¬ ((4 : Int32) = (2 : Int32)))).2 (by decide) (by decide) ?_
    show Steps p.tables e below (s₁.setTop (mkF m 26 #[.val (.int (4 : Int32))] [])) _
    refine XS.iloadN X0.here hx rfl (hb hby own_d1_26) rfl ?_
    show Steps p.tables e below (s₁.setTop (mkF m 27 #[.val (.int (4 : Int32))] [(.int (4 : Int32))])) _
    refine XS.iconst X0.here hx rfl (hb hby own_d1_27) ?_
    show Steps p.tables e below (s₁.setTop (mkF m 28 #[.val (.int (4 : Int32))] [(.int (3 : Int32)), (.int (4 : Int32))])) _
    refine XS.icmpYes X0.here hx rfl (pc0 := 28) (pc' := 35) rfl (hb hby own_d1_28) rfl (feq (by decide : ¬ ((4 : Int32) = (3 : Int32)))).2 (by decide) (by decide) ?_
    show Steps p.tables e below (s₁.setTop (mkF m 35 #[.val (.int (4 : Int32))] [])) _
    refine st1 _ ?_
    show Steps p.tables e below (T1.setTop (mkF m 38 #[.val (.int (4 : Int32))] [(.ref wVisibility_USER_MANAGED_NOT_VISIBLE)])) _
    jvm_step X1.here [X1.here.top, hx, (hb hby own_d1_38), X1.method', Bd.returns, Value.isRef, FieldType.isReference]
    first | (intro acts; rw [hr _ acts rfl rfl rfl]) | rw [hr _ _ rfl rfl rfl]
    exact Steps.refl _
  · exact ⟨rfl, N0, e1⟩
set_option maxRecDepth 65536 in
set_option maxHeartbeats 40000000 in
theorem own_r3_24 (l : Launch) (Z : State) (a0 : Array Value) (hw : ∀ d ∈ tables_1, d.before a0 Z = true) (ws : List Jvm.Cond) (wVisibility_UNDEFINED : Addr) (wVisibility_VISIBLE : Addr) (wVisibility_USER_MANAGED_VISIBLE : Addr) (wVisibility_NOT_VISIBLE : Addr) (wVisibility_USER_MANAGED_NOT_VISIBLE : Addr) (h0 : Heap) (n0 : Nat) (Z0 : n0 ≤ h0.size) (F : own_W Z h0 wVisibility_UNDEFINED wVisibility_VISIBLE wVisibility_USER_MANAGED_VISIBLE wVisibility_NOT_VISIBLE wVisibility_USER_MANAGED_NOT_VISIBLE)   :
    MetFree l (⟨"java/lang/Enum", "ordinal", "()I"⟩ : MethodName) (head1 (Jvm.Cond.code (⟨"java/lang/Enum", "ordinal", "()I"⟩ : MethodName) jdk_37_method_2_code 1 (some .int) :: ws) ({ frames := 0, cells := 0, slots := 0, locals := 0 } : Room)) (fun a U => a = #[(.ref wVisibility_USER_MANAGED_NOT_VISIBLE)] ∧ Z.Warmed39 U.vm ∧ U.heap = h0) (fun _ _ _ _ _ => True) (fun _ U o U' => ∃ v L, o = .returned v ∧ own_Q (.int (4 : Int32)) h0 n0 v U'.heap L ∧ FrameEnd U o U' L ({ frames := 0, cells := 0, slots := 0, locals := 0 } : Room).cells ({ frames := 0, cells := 0, slots := 0, locals := 0 } : Room).slots) := by
  obtain ⟨S_wVisibility_UNDEFINED, E_wVisibility_UNDEFINED, S_wVisibility_VISIBLE, E_wVisibility_VISIBLE, S_wVisibility_USER_MANAGED_VISIBLE, E_wVisibility_USER_MANAGED_VISIBLE, S_wVisibility_NOT_VISIBLE, E_wVisibility_NOT_VISIBLE, S_wVisibility_USER_MANAGED_NOT_VISIBLE, E_wVisibility_USER_MANAGED_NOT_VISIBLE, F_wVisibility_UNDEFINED_ordinal, F_wVisibility_VISIBLE_ordinal, F_wVisibility_USER_MANAGED_VISIBLE_ordinal, F_wVisibility_NOT_VISIBLE_ordinal, F_wVisibility_USER_MANAGED_NOT_VISIBLE_ordinal, ne_wVisibility_UNDEFINED_wVisibility_VISIBLE, ne_wVisibility_UNDEFINED_wVisibility_USER_MANAGED_VISIBLE, ne_wVisibility_UNDEFINED_wVisibility_NOT_VISIBLE, ne_wVisibility_UNDEFINED_wVisibility_USER_MANAGED_NOT_VISIBLE, ne_wVisibility_VISIBLE_wVisibility_USER_MANAGED_VISIBLE, ne_wVisibility_VISIBLE_wVisibility_NOT_VISIBLE, ne_wVisibility_VISIBLE_wVisibility_USER_MANAGED_NOT_VISIBLE, ne_wVisibility_USER_MANAGED_VISIBLE_wVisibility_NOT_VISIBLE, ne_wVisibility_USER_MANAGED_VISIBLE_wVisibility_USER_MANAGED_NOT_VISIBLE, ne_wVisibility_NOT_VISIBLE_wVisibility_USER_MANAGED_NOT_VISIBLE⟩ := id F
  refine MetFree.of_bodySF (plainFor_of_name own_pn_Enum) hisR ?_
  intro p e s m args below meth c s₁ Bd hml0 hP hK
  obtain ⟨rfl, hZ, hh⟩ := hP
  have hx := Bd.exec
  have hby := Bd.bytes
  have hml : c.maxLocals = 1 := hml0
  have hown : s.vm.findClass "java/lang/Enum" = some m.cls := findClass_of_methodNamed Bd.named
  have X0 : Stand p l e ({ frames := 0, cells := 0, slots := 0, locals := 0 } : Room) s m #[(.ref wVisibility_USER_MANAGED_NOT_VISIBLE)] below meth c s₁ [] 0 0 := Stand.of_body Bd
  have e0 : s₁.heap = h0 := by rw [← hh, Bd.state]; rfl
  have N0 := Fr.nil n0
  have pre0 : ∀ t, Steps p.tables e below (s₁.setTop (mkF m 0 #[.val (.ref wVisibility_USER_MANAGED_NOT_VISIBLE)] [])) t → Steps p.tables e below (s₁.setTop (entryFrame m #[(.ref wVisibility_USER_MANAGED_NOT_VISIBLE)] 1)) t := fun t k => castTop (own_ef3_R m wVisibility_USER_MANAGED_NOT_VISIBLE) k
  obtain ⟨T1, X1, e1, st1⟩ := getF X0 hx hZ hown (host := "") (Or.inl (hw _ (List.mem_of_getElem? (i := 20) rfl))) Via.refl e0 F_wVisibility_USER_MANAGED_NOT_VISIBLE_ordinal (g := (mkF m 1 #[.val (.ref wVisibility_USER_MANAGED_NOT_VISIBLE)] [(.ref wVisibility_USER_MANAGED_NOT_VISIBLE)])) rfl rfl (hb hby own_d3_1)
  obtain ⟨fs, hr, hrun, hended, hW, hsame⟩ := X1.leave (v := some (.int (4 : Int32))) (fun h => by rw [Bd.returns] at h; cases h)
  refine ⟨_, _, pre0 _ ?_, hrun, hended, _, _, rfl, ?_, ⟨_, rfl⟩, hW, hsame.mono (by decide) (by decide)⟩
  · show Steps p.tables e below (s₁.setTop (mkF m 0 #[.val (.ref wVisibility_USER_MANAGED_NOT_VISIBLE)] [])) _
    refine XS.aloadN X0.here hx rfl (hb hby own_d3_0) rfl rfl ?_
    show Steps p.tables e below (s₁.setTop (mkF m 1 #[.val (.ref wVisibility_USER_MANAGED_NOT_VISIBLE)] [(.ref wVisibility_USER_MANAGED_NOT_VISIBLE)])) _
    refine st1 _ ?_
    show Steps p.tables e below (T1.setTop (mkF m 4 #[.val (.ref wVisibility_USER_MANAGED_NOT_VISIBLE)] [(.int (4 : Int32))])) _
    exact retI X1 hx Bd.returns (hb hby own_d3_4) hr
  · exact ⟨rfl, N0, e1⟩
set_option maxRecDepth 65536 in
set_option maxHeartbeats 40000000 in
theorem own_r2_23 (l : Launch) (Z : State) (a0 : Array Value) (hw : ∀ d ∈ tables_1, d.before a0 Z = true) (ws : List Jvm.Cond) (wVisibility_UNDEFINED : Addr) (wVisibility_VISIBLE : Addr) (wVisibility_USER_MANAGED_VISIBLE : Addr) (wVisibility_NOT_VISIBLE : Addr) (wVisibility_USER_MANAGED_NOT_VISIBLE : Addr) (h0 : Heap) (n0 : Nat) (Z0 : n0 ≤ h0.size) (F : own_W Z h0 wVisibility_UNDEFINED wVisibility_VISIBLE wVisibility_USER_MANAGED_VISIBLE wVisibility_NOT_VISIBLE wVisibility_USER_MANAGED_NOT_VISIBLE)   :
    MetFree l (⟨"io/authlatch/callers/Visibility", "number", "()I"⟩ : MethodName) (head1 (Jvm.Cond.code (⟨"io/authlatch/callers/Visibility", "number", "()I"⟩ : MethodName) prog_32_method_6_code 1 (some .int) :: ws) ({ frames := 1, cells := 0, slots := 0, locals := 12 } : Room)) (fun a U => a = #[(.ref wVisibility_USER_MANAGED_NOT_VISIBLE)] ∧ Z.Warmed39 U.vm ∧ U.heap = h0) (fun _ _ _ _ _ => True) (fun _ U o U' => ∃ v L, o = .returned v ∧ own_Q (.int (4 : Int32)) h0 n0 v U'.heap L ∧ FrameEnd U o U' L ({ frames := 1, cells := 0, slots := 0, locals := 12 } : Room).cells ({ frames := 1, cells := 0, slots := 0, locals := 12 } : Room).slots) := by
  obtain ⟨S_wVisibility_UNDEFINED, E_wVisibility_UNDEFINED, S_wVisibility_VISIBLE, E_wVisibility_VISIBLE, S_wVisibility_USER_MANAGED_VISIBLE, E_wVisibility_USER_MANAGED_VISIBLE, S_wVisibility_NOT_VISIBLE, E_wVisibility_NOT_VISIBLE, S_wVisibility_USER_MANAGED_NOT_VISIBLE, E_wVisibility_USER_MANAGED_NOT_VISIBLE, F_wVisibility_UNDEFINED_ordinal, F_wVisibility_VISIBLE_ordinal, F_wVisibility_USER_MANAGED_VISIBLE_ordinal, F_wVisibility_NOT_VISIBLE_ordinal, F_wVisibility_USER_MANAGED_NOT_VISIBLE_ordinal, ne_wVisibility_UNDEFINED_wVisibility_VISIBLE, ne_wVisibility_UNDEFINED_wVisibility_USER_MANAGED_VISIBLE, ne_wVisibility_UNDEFINED_wVisibility_NOT_VISIBLE, ne_wVisibility_UNDEFINED_wVisibility_USER_MANAGED_NOT_VISIBLE, ne_wVisibility_VISIBLE_wVisibility_USER_MANAGED_VISIBLE, ne_wVisibility_VISIBLE_wVisibility_NOT_VISIBLE, ne_wVisibility_VISIBLE_wVisibility_USER_MANAGED_NOT_VISIBLE, ne_wVisibility_USER_MANAGED_VISIBLE_wVisibility_NOT_VISIBLE, ne_wVisibility_USER_MANAGED_VISIBLE_wVisibility_USER_MANAGED_NOT_VISIBLE, ne_wVisibility_NOT_VISIBLE_wVisibility_USER_MANAGED_NOT_VISIBLE⟩ := id F
  refine MetFree.of_bodySF (plainFor_of_name own_pn_Visibility) hisR ?_
  intro p e s m args below meth c s₁ Bd hml0 hP hK
  obtain ⟨rfl, hZ, hh⟩ := hP
  have hx := Bd.exec
  have hby := Bd.bytes
  have hml : c.maxLocals = 1 := hml0
  have hown : s.vm.findClass "io/authlatch/callers/Visibility" = some m.cls := findClass_of_methodNamed Bd.named
  have X0 : Stand p l e ({ frames := 1, cells := 0, slots := 0, locals := 12 } : Room) s m #[(.ref wVisibility_USER_MANAGED_NOT_VISIBLE)] below meth c s₁ [] 0 0 := Stand.of_body Bd
  have e0 : s₁.heap = h0 := by rw [← hh, Bd.state]; rfl
  have N0 := Fr.nil n0
  have pre0 : ∀ t, Steps p.tables e below (s₁.setTop (mkF m 0 #[.val (.ref wVisibility_USER_MANAGED_NOT_VISIBLE)] [])) t → Steps p.tables e below (s₁.setTop (entryFrame m #[(.ref wVisibility_USER_MANAGED_NOT_VISIBLE)] 1)) t := fun t k => castTop (own_ef2_R m wVisibility_USER_MANAGED_NOT_VISIBLE) k
  obtain ⟨cq1, kq1, q1a, q1b, q1c⟩ := isOf hZ e0 E_wVisibility_USER_MANAGED_NOT_VISIBLE
  obtain ⟨_, _, ⟨T1, L1, k1, n1⟩, -, X1, ⟨Lc1, hQ1, l1, y1, z1⟩, st1⟩ := X0.virtualBackUp hx (x := (⟨"io/authlatch/callers/Visibility", "ordinal", "()I"⟩ : MethodName)) (y := (⟨"java/lang/Enum", "ordinal", "()I"⟩ : MethodName)) (owner := "java/lang/Enum") hown (mvT hZ (hw _ (List.mem_of_getElem? (i := 13) rfl))) (mvT hZ (hw _ (List.mem_of_getElem? (i := 14) rfl))) (mvT hZ (hw _ (List.mem_of_getElem? (i := 15) rfl))) (by decide) (mvT hZ (hw _ (List.mem_of_getElem? (i := 17) rfl))) (mvT hZ (hw _ (List.mem_of_getElem? (i := 16) rfl))) (backOf (W := 0) (own_r3_24 l Z a0 hw [] wVisibility_UNDEFINED wVisibility_VISIBLE wVisibility_USER_MANAGED_VISIBLE wVisibility_NOT_VISIBLE wVisibility_USER_MANAGED_NOT_VISIBLE h0 n0 Z0 F ) hZ (hw _ (List.mem_of_getElem? (i := 19) rfl)) (hw _ (List.mem_of_getElem? (i := 18) rfl)) (by decide) (by decide)) q1a q1c (g := (mkF m 1 #[.val (.ref wVisibility_USER_MANAGED_NOT_VISIBLE)] [(.ref wVisibility_USER_MANAGED_NOT_VISIBLE)])) rfl (by rw [hml]; rfl) (Steps.refl _) (argsL := []) (rest := []) (lenOf own_pd1 rfl) rfl (by show 2 * 0 + _ ≤ _; exact Nat.le_of_eq rfl) (hb hby own_d2_1) (fun _ _ => ⟨rfl, e0, (by decide : 0 + 0 ≤ _), (by decide : 0 + 0 ≤ _)⟩)
  dsimp only [Pt.U, Pt.locs, Pt.cells, Pt.slots] at X1 l1 y1 z1 st1 hQ1
  subst l1 y1 z1
  obtain ⟨rfl, N1q, e1⟩ := hQ1
  have N1 := Fr.app N0 N1q
  obtain ⟨fs, hr, hrun, hended, hW, hsame⟩ := X1.leave (v := some (.int (4 : Int32))) (fun h => by rw [Bd.returns] at h; cases h)
  refine ⟨_, _, pre0 _ ?_, hrun, hended, _, _, rfl, ?_, ⟨_, rfl⟩, hW, hsame.mono (by decide) (by decide)⟩
  · show Steps p.tables e below (s₁.setTop (mkF m 0 #[.val (.ref wVisibility_USER_MANAGED_NOT_VISIBLE)] [])) _
    refine XS.aloadN X0.here hx rfl (hb hby own_d2_0) rfl rfl ?_
    show Steps p.tables e below (s₁.setTop (mkF m 1 #[.val (.ref wVisibility_USER_MANAGED_NOT_VISIBLE)] [(.ref wVisibility_USER_MANAGED_NOT_VISIBLE)])) _
    refine st1.trans ?_
    show Steps p.tables e below (T1.setTop (mkF m 4 #[.val (.ref wVisibility_USER_MANAGED_NOT_VISIBLE)] [(.int (4 : Int32))])) _
    exact retI X1 hx Bd.returns (hb hby own_d2_4) hr
  · exact ⟨rfl, N1, e1⟩
set_option maxRecDepth 65536 in
set_option maxHeartbeats 40000000 in
theorem own_r4_25 (l : Launch) (Z : State) (a0 : Array Value) (hw : ∀ d ∈ tables_1, d.before a0 Z = true) (ws : List Jvm.Cond) (wVisibility_UNDEFINED : Addr) (wVisibility_VISIBLE : Addr) (wVisibility_USER_MANAGED_VISIBLE : Addr) (wVisibility_NOT_VISIBLE : Addr) (wVisibility_USER_MANAGED_NOT_VISIBLE : Addr) (h0 : Heap) (n0 : Nat) (Z0 : n0 ≤ h0.size) (F : own_W Z h0 wVisibility_UNDEFINED wVisibility_VISIBLE wVisibility_USER_MANAGED_VISIBLE wVisibility_NOT_VISIBLE wVisibility_USER_MANAGED_NOT_VISIBLE)   :
    MetFree l (⟨"io/authlatch/callers/Visibility", "served", "()Z"⟩ : MethodName) (head1 (Jvm.Cond.code (⟨"io/authlatch/callers/Visibility", "served", "()Z"⟩ : MethodName) prog_32_method_7_code 1 (some .boolean) :: ws) ({ frames := 0, cells := 0, slots := 0, locals := 0 } : Room)) (fun a U => a = #[(.ref wVisibility_USER_MANAGED_NOT_VISIBLE)] ∧ Z.Warmed39 U.vm ∧ U.heap = h0) (fun _ _ _ _ _ => True) (fun _ U o U' => ∃ v L, o = .returned v ∧ own_Q (.int (0 : Int32)) h0 n0 v U'.heap L ∧ FrameEnd U o U' L ({ frames := 0, cells := 0, slots := 0, locals := 0 } : Room).cells ({ frames := 0, cells := 0, slots := 0, locals := 0 } : Room).slots) := by
  obtain ⟨S_wVisibility_UNDEFINED, E_wVisibility_UNDEFINED, S_wVisibility_VISIBLE, E_wVisibility_VISIBLE, S_wVisibility_USER_MANAGED_VISIBLE, E_wVisibility_USER_MANAGED_VISIBLE, S_wVisibility_NOT_VISIBLE, E_wVisibility_NOT_VISIBLE, S_wVisibility_USER_MANAGED_NOT_VISIBLE, E_wVisibility_USER_MANAGED_NOT_VISIBLE, F_wVisibility_UNDEFINED_ordinal, F_wVisibility_VISIBLE_ordinal, F_wVisibility_USER_MANAGED_VISIBLE_ordinal, F_wVisibility_NOT_VISIBLE_ordinal, F_wVisibility_USER_MANAGED_NOT_VISIBLE_ordinal, ne_wVisibility_UNDEFINED_wVisibility_VISIBLE, ne_wVisibility_UNDEFINED_wVisibility_USER_MANAGED_VISIBLE, ne_wVisibility_UNDEFINED_wVisibility_NOT_VISIBLE, ne_wVisibility_UNDEFINED_wVisibility_USER_MANAGED_NOT_VISIBLE, ne_wVisibility_VISIBLE_wVisibility_USER_MANAGED_VISIBLE, ne_wVisibility_VISIBLE_wVisibility_NOT_VISIBLE, ne_wVisibility_VISIBLE_wVisibility_USER_MANAGED_NOT_VISIBLE, ne_wVisibility_USER_MANAGED_VISIBLE_wVisibility_NOT_VISIBLE, ne_wVisibility_USER_MANAGED_VISIBLE_wVisibility_USER_MANAGED_NOT_VISIBLE, ne_wVisibility_NOT_VISIBLE_wVisibility_USER_MANAGED_NOT_VISIBLE⟩ := id F
  refine MetFree.of_bodySF (plainFor_of_name own_pn_Visibility) hisR ?_
  intro p e s m args below meth c s₁ Bd hml0 hP hK
  obtain ⟨rfl, hZ, hh⟩ := hP
  have hx := Bd.exec
  have hby := Bd.bytes
  have hml : c.maxLocals = 1 := hml0
  have hown : s.vm.findClass "io/authlatch/callers/Visibility" = some m.cls := findClass_of_methodNamed Bd.named
  have X0 : Stand p l e ({ frames := 0, cells := 0, slots := 0, locals := 0 } : Room) s m #[(.ref wVisibility_USER_MANAGED_NOT_VISIBLE)] below meth c s₁ [] 0 0 := Stand.of_body Bd
  have e0 : s₁.heap = h0 := by rw [← hh, Bd.state]; rfl
  have N0 := Fr.nil n0
  have pre0 : ∀ t, Steps p.tables e below (s₁.setTop (mkF m 0 #[.val (.ref wVisibility_USER_MANAGED_NOT_VISIBLE)] [])) t → Steps p.tables e below (s₁.setTop (entryFrame m #[(.ref wVisibility_USER_MANAGED_NOT_VISIBLE)] 1)) t := fun t k => castTop (own_ef4_R m wVisibility_USER_MANAGED_NOT_VISIBLE) k
  obtain ⟨T1, X1, e1, st1⟩ := getS2 X0 hx hZ hown (host := "") (Or.inl (hw _ (List.mem_of_getElem? (i := 27) rfl))) Via.refl e0 S_wVisibility_VISIBLE (g := (mkF m 1 #[.val (.ref wVisibility_USER_MANAGED_NOT_VISIBLE)] [(.ref wVisibility_USER_MANAGED_NOT_VISIBLE)])) rfl (hb hby own_d4_1)
  obtain ⟨T2, X2, e2, st2⟩ := getS2 X1 hx hZ hown (host := "") (Or.inl (hw _ (List.mem_of_getElem? (i := 29) rfl))) Via.refl e1 S_wVisibility_USER_MANAGED_VISIBLE (g := (mkF m 8 #[.val (.ref wVisibility_USER_MANAGED_NOT_VISIBLE)] [(.ref wVisibility_USER_MANAGED_NOT_VISIBLE)])) rfl (hb hby own_d4_8)
  obtain ⟨fs, hr, hrun, hended, hW, hsame⟩ := X2.leave (v := some (.int (0 : Int32))) (fun h => by rw [Bd.returns] at h; cases h)
  refine ⟨_, _, pre0 _ ?_, hrun, hended, _, _, rfl, ?_, ⟨_, rfl⟩, hW, hsame.mono (by decide) (by decide)⟩
  · show Steps p.tables e below (s₁.setTop (mkF m 0 #[.val (.ref wVisibility_USER_MANAGED_NOT_VISIBLE)] [])) _
    refine XS.aloadN X0.here hx rfl (hb hby own_d4_0) rfl rfl ?_
    show Steps p.tables e below (s₁.setTop (mkF m 1 #[.val (.ref wVisibility_USER_MANAGED_NOT_VISIBLE)] [(.ref wVisibility_USER_MANAGED_NOT_VISIBLE)])) _
    refine st1 _ ?_
    show Steps p.tables e below (T1.setTop (mkF m 4 #[.val (.ref wVisibility_USER_MANAGED_NOT_VISIBLE)] [(.ref wVisibility_VISIBLE), (.ref wVisibility_USER_MANAGED_NOT_VISIBLE)])) _
    refine Jvm.RoadKit.acmp (g := (mkF m 4 #[.val (.ref wVisibility_USER_MANAGED_NOT_VISIBLE)] [(.ref wVisibility_VISIBLE), (.ref wVisibility_USER_MANAGED_NOT_VISIBLE)])) X1 hx rfl rfl rfl (pc0 := 4) (pc' := 7) (same := false) rfl (hb hby own_d4_4) rfl (decide_eq_false fun q => (Ne.symm ne_wVisibility_VISIBLE_wVisibility_USER_MANAGED_NOT_VISIBLE) (Value.ref.inj q)) (by decide) (by decide) ?_
    show Steps p.tables e below (T1.setTop (mkF m 7 #[.val (.ref wVisibility_USER_MANAGED_NOT_VISIBLE)] [])) _
    refine XS.aloadN X1.here hx rfl (hb hby own_d4_7) rfl rfl ?_
    show Steps p.tables e below (T1.setTop (mkF m 8 #[.val (.ref wVisibility_USER_MANAGED_NOT_VISIBLE)] [(.ref wVisibility_USER_MANAGED_NOT_VISIBLE)])) _
    refine st2 _ ?_
    show Steps p.tables e below (T2.setTop (mkF m 11 #[.val (.ref wVisibility_USER_MANAGED_NOT_VISIBLE)] [(.ref wVisibility_USER_MANAGED_VISIBLE), (.ref wVisibility_USER_MANAGED_NOT_VISIBLE)])) _
    refine Jvm.RoadKit.acmp (g := (mkF m 11 #[.val (.ref wVisibility_USER_MANAGED_NOT_VISIBLE)] [(.ref wVisibility_USER_MANAGED_VISIBLE), (.ref wVisibility_USER_MANAGED_NOT_VISIBLE)])) X2 hx rfl rfl rfl (pc0 := 11) (pc' := 18) (same := false) rfl (hb hby own_d4_11) rfl (decide_eq_false fun q => (Ne.symm ne_wVisibility_USER_MANAGED_VISIBLE_wVisibility_USER_MANAGED_NOT_VISIBLE) (Value.ref.inj q)) (by decide) (by decide) ?_
    show Steps p.tables e below (T2.setTop (mkF m 18 #[.val (.ref wVisibility_USER_MANAGED_NOT_VISIBLE)] [])) _
    refine XS.iconst X2.here hx rfl (hb hby own_d4_18) ?_
    show Steps p.tables e below (T2.setTop (mkF m 19 #[.val (.ref wVisibility_USER_MANAGED_NOT_VISIBLE)] [(.int (0 : Int32))])) _
    exact retN X2 hx (t := .boolean) Bd.returns (by simp) (hb hby own_d4_19) hr
  · exact ⟨rfl, N0, e2⟩
set_option maxRecDepth 65536 in
set_option maxHeartbeats 40000000 in
theorem own_r0_k4 (l : Launch) (Z : State) (a0 : Array Value) (hw : ∀ d ∈ tables_1, d.before a0 Z = true) (ws : List Jvm.Cond) (wVisibility_UNDEFINED : Addr) (wVisibility_VISIBLE : Addr) (wVisibility_USER_MANAGED_VISIBLE : Addr) (wVisibility_NOT_VISIBLE : Addr) (wVisibility_USER_MANAGED_NOT_VISIBLE : Addr) (h0 : Heap) (n0 : Nat) (Z0 : n0 ≤ h0.size) (F : own_W Z h0 wVisibility_UNDEFINED wVisibility_VISIBLE wVisibility_USER_MANAGED_VISIBLE wVisibility_NOT_VISIBLE wVisibility_USER_MANAGED_NOT_VISIBLE) (i0 : Int32) (hk : ((i0 &&& (2147483647 : Int32)) % (5 : Int32)) = (4 : Int32)) :
    MetFree l x (head1 (Jvm.Cond.code x code maxLocals ret :: ws) room_1) (fun a U => a = #[(.int i0)] ∧ Z.Warmed39 U.vm ∧ U.heap = h0) (fun _ _ _ _ _ => True) (fun _ U o U' => ∃ v L, o = .returned v ∧ own_Q (.int (1 : Int32)) h0 n0 v U'.heap L ∧ FrameEnd U o U' L room_1.cells room_1.slots) := by
  obtain ⟨S_wVisibility_UNDEFINED, E_wVisibility_UNDEFINED, S_wVisibility_VISIBLE, E_wVisibility_VISIBLE, S_wVisibility_USER_MANAGED_VISIBLE, E_wVisibility_USER_MANAGED_VISIBLE, S_wVisibility_NOT_VISIBLE, E_wVisibility_NOT_VISIBLE, S_wVisibility_USER_MANAGED_NOT_VISIBLE, E_wVisibility_USER_MANAGED_NOT_VISIBLE, F_wVisibility_UNDEFINED_ordinal, F_wVisibility_VISIBLE_ordinal, F_wVisibility_USER_MANAGED_VISIBLE_ordinal, F_wVisibility_NOT_VISIBLE_ordinal, F_wVisibility_USER_MANAGED_NOT_VISIBLE_ordinal, ne_wVisibility_UNDEFINED_wVisibility_VISIBLE, ne_wVisibility_UNDEFINED_wVisibility_USER_MANAGED_VISIBLE, ne_wVisibility_UNDEFINED_wVisibility_NOT_VISIBLE, ne_wVisibility_UNDEFINED_wVisibility_USER_MANAGED_NOT_VISIBLE, ne_wVisibility_VISIBLE_wVisibility_USER_MANAGED_VISIBLE, ne_wVisibility_VISIBLE_wVisibility_NOT_VISIBLE, ne_wVisibility_VISIBLE_wVisibility_USER_MANAGED_NOT_VISIBLE, ne_wVisibility_USER_MANAGED_VISIBLE_wVisibility_NOT_VISIBLE, ne_wVisibility_USER_MANAGED_VISIBLE_wVisibility_USER_MANAGED_NOT_VISIBLE, ne_wVisibility_NOT_VISIBLE_wVisibility_USER_MANAGED_NOT_VISIBLE⟩ := id F
  refine MetFree.of_bodySF (plainFor_of_name own_pn_VisibilityServedPinLaw) hisR ?_
  intro p e s m args below meth c s₁ Bd hml0 hP hK
  obtain ⟨rfl, hZ, hh⟩ := hP
  have hx := Bd.exec
  have hby := Bd.bytes
  have hml : c.maxLocals = 4 := hml0
  have hown : s.vm.findClass "io/authlatch/callers/VisibilityServedPinLaw" = some m.cls := findClass_of_methodNamed Bd.named
  have X0 : Stand p l e room_1 s m #[(.int i0)] below meth c s₁ [] 0 0 := Stand.of_body Bd
  have e0 : s₁.heap = h0 := by rw [← hh, Bd.state]; rfl
  have N0 := Fr.nil n0
  have pre0 : ∀ t, Steps p.tables e below (s₁.setTop (mkF m 0 #[.val (.int i0), .unset, .unset, .unset] [])) t → Steps p.tables e below (s₁.setTop (entryFrame m #[(.int i0)] maxLocals)) t := fun t k => castTop (own_ef0_I m i0) k
  obtain ⟨_, _, ⟨T1, L1, k1, n1⟩, -, X1, ⟨Lc1, hQ1, l1, y1, z1⟩, st1⟩ := Jvm.LawKit.callS X0 hx (y := (⟨"io/authlatch/callers/VisibilityServedPinLaw", "pick", "(I)Lio/authlatch/callers/Visibility;"⟩ : MethodName)) hown (mvT hZ (hw _ (List.mem_of_getElem? (i := 1) rfl))) (mvT hZ (hw _ (List.mem_of_getElem? (i := 2) rfl))) (mvT hZ (hw _ (List.mem_of_getElem? (i := 3) rfl))) (mvT hZ (hw _ (List.mem_of_getElem? (i := 4) rfl))) (by decide) (backOf (W := 0) (own_r1_22 l Z a0 hw [] wVisibility_UNDEFINED wVisibility_VISIBLE wVisibility_USER_MANAGED_VISIBLE wVisibility_NOT_VISIBLE wVisibility_USER_MANAGED_NOT_VISIBLE h0 n0 Z0 F ) hZ (hw _ (List.mem_of_getElem? (i := 4) rfl)) (hw _ (List.mem_of_getElem? (i := 3) rfl)) (by decide) (by decide)) (g := (mkF m 8 #[.val (.int i0), .val (.int (4 : Int32)), .unset, .unset] [(.int (4 : Int32))])) rfl (by rw [hml]; rfl) (argsL := [(.int (4 : Int32))]) (rest := []) (lenOf own_pd0 rfl) rfl (by show 2 * 0 + _ ≤ _; exact Nat.le_of_eq rfl) (hb hby at_8) (fun _ _ => ⟨rfl, e0, (by decide : 0 + 0 ≤ _), (by decide : 0 + 0 ≤ _)⟩)
  dsimp only [Pt.U, Pt.locs, Pt.cells, Pt.slots] at X1 l1 y1 z1 st1 hQ1
  subst l1 y1 z1
  obtain ⟨rfl, N1q, e1⟩ := hQ1
  have N1 := Fr.app N0 N1q
  obtain ⟨cq2, kq2, q2a, q2b, q2c⟩ := isOf hZ e1 E_wVisibility_USER_MANAGED_NOT_VISIBLE
  obtain ⟨_, _, ⟨T2, L2, k2, n2⟩, -, X2, ⟨Lc2, hQ2, l2, y2, z2⟩, st2⟩ := X1.virtualBack hx (y := (⟨"io/authlatch/callers/Visibility", "number", "()I"⟩ : MethodName)) (z := (⟨"io/authlatch/callers/Visibility", "number", "()I"⟩ : MethodName)) hown (mvT hZ (hw _ (List.mem_of_getElem? (i := 8) rfl))) (mvT hZ (hw _ (List.mem_of_getElem? (i := 9) rfl))) (notFace_of_selects (args := #[]) (mvT hZ (hw _ (List.mem_of_getElem? (i := 11) rfl)))) (mvT hZ (hw _ (List.mem_of_getElem? (i := 11) rfl))) (mvT hZ (hw _ (List.mem_of_getElem? (i := 10) rfl))) (by decide) (backOf (W := 0) (own_r2_23 l Z a0 hw [] wVisibility_UNDEFINED wVisibility_VISIBLE wVisibility_USER_MANAGED_VISIBLE wVisibility_NOT_VISIBLE wVisibility_USER_MANAGED_NOT_VISIBLE h0 n0 Z0 F ) hZ (hw _ (List.mem_of_getElem? (i := 12) rfl)) (hw _ (List.mem_of_getElem? (i := 6) rfl)) (by decide) (by decide)) q2a q2c (g := (mkF m 29 #[.val (.int i0), .val (.int (4 : Int32)), .val (.ref wVisibility_USER_MANAGED_NOT_VISIBLE), .val (.int (0 : Int32))] [(.ref wVisibility_USER_MANAGED_NOT_VISIBLE)])) rfl (by rw [hml]; rfl) (Steps.refl _) (argsL := []) (rest := []) (lenOf own_pd1 rfl) rfl (by show 2 * 0 + _ ≤ _; exact Nat.le_of_eq rfl) (hb hby at_29) (fun _ _ => ⟨rfl, e1, (by decide : 0 + 0 ≤ _), (by decide : 0 + 0 ≤ _)⟩)
  dsimp only [Pt.U, Pt.locs, Pt.cells, Pt.slots] at X2 l2 y2 z2 st2 hQ2
  subst l2 y2 z2
  obtain ⟨rfl, N2q, e2⟩ := hQ2
  have N2 := Fr.app N1 N2q
  obtain ⟨cq3, kq3, q3a, q3b, q3c⟩ := isOf hZ e2 E_wVisibility_USER_MANAGED_NOT_VISIBLE
  obtain ⟨_, _, ⟨T3, L3, k3, n3⟩, -, X3, ⟨Lc3, hQ3, l3, y3, z3⟩, st3⟩ := X2.virtualBack hx (y := (⟨"io/authlatch/callers/Visibility", "served", "()Z"⟩ : MethodName)) (z := (⟨"io/authlatch/callers/Visibility", "served", "()Z"⟩ : MethodName)) hown (mvT hZ (hw _ (List.mem_of_getElem? (i := 22) rfl))) (mvT hZ (hw _ (List.mem_of_getElem? (i := 23) rfl))) (notFace_of_selects (args := #[]) (mvT hZ (hw _ (List.mem_of_getElem? (i := 25) rfl)))) (mvT hZ (hw _ (List.mem_of_getElem? (i := 25) rfl))) (mvT hZ (hw _ (List.mem_of_getElem? (i := 24) rfl))) (by decide) (backOf (W := 0) (own_r4_25 l Z a0 hw [] wVisibility_UNDEFINED wVisibility_VISIBLE wVisibility_USER_MANAGED_VISIBLE wVisibility_NOT_VISIBLE wVisibility_USER_MANAGED_NOT_VISIBLE h0 n0 Z0 F ) hZ (hw _ (List.mem_of_getElem? (i := 26) rfl)) (hw _ (List.mem_of_getElem? (i := 6) rfl)) (by decide) (by decide)) q3a q3c (g := (mkF m 37 #[.val (.int i0), .val (.int (4 : Int32)), .val (.ref wVisibility_USER_MANAGED_NOT_VISIBLE), .val (.int (0 : Int32))] [(.ref wVisibility_USER_MANAGED_NOT_VISIBLE)])) rfl (by rw [hml]; rfl) (Steps.refl _) (argsL := []) (rest := []) (lenOf own_pd2 rfl) rfl (by show 2 * 0 + _ ≤ _; exact Nat.le_of_eq rfl) (hb hby at_37) (fun _ _ => ⟨rfl, e2, (by decide : 0 + 0 ≤ _), (by decide : 0 + 0 ≤ _)⟩)
  dsimp only [Pt.U, Pt.locs, Pt.cells, Pt.slots] at X3 l3 y3 z3 st3 hQ3
  subst l3 y3 z3
  obtain ⟨rfl, N3q, e3⟩ := hQ3
  have N3 := Fr.app N2 N3q
  obtain ⟨fs, hr, hrun, hended, hW, hsame⟩ := X3.leave (v := some (.int (1 : Int32))) (fun h => by rw [Bd.returns] at h; cases h)
  refine ⟨_, _, pre0 _ ?_, hrun, hended, _, _, rfl, ?_, ⟨_, rfl⟩, hW, hsame.mono (by decide) (by decide)⟩
  · show Steps p.tables e below (s₁.setTop (mkF m 0 #[.val (.int i0), .unset, .unset, .unset] [])) _
    refine XS.iloadN X0.here hx rfl (hb hby at_0) rfl ?_
    show Steps p.tables e below (s₁.setTop (mkF m 1 #[.val (.int i0), .unset, .unset, .unset] [(.int i0)])) _
    refine X0.ldcInt hx hown (mvT hZ (hw _ (List.mem_of_getElem? (i := 0) rfl))) (g := (mkF m 1 #[.val (.int i0), .unset, .unset, .unset] [(.int i0)])) rfl (hb hby at_1) _ ?_
    show Steps p.tables e below (s₁.setTop (mkF m 3 #[.val (.int i0), .unset, .unset, .unset] [(.int (2147483647 : Int32)), (.int i0)])) _
    refine XS.iand X0.here hx rfl (hb hby at_3) rfl ?_
    show Steps p.tables e below (s₁.setTop (mkF m 4 #[.val (.int i0), .unset, .unset, .unset] [(.int (i0 &&& (2147483647 : Int32)))])) _
    refine XS.iconst X0.here hx rfl (hb hby at_4) ?_
    show Steps p.tables e below (s₁.setTop (mkF m 5 #[.val (.int i0), .unset, .unset, .unset] [(.int (5 : Int32)), (.int (i0 &&& (2147483647 : Int32)))])) _
    refine iremM (g := (mkF m 5 #[.val (.int i0), .unset, .unset, .unset] [(.int (5 : Int32)), (.int (i0 &&& (2147483647 : Int32)))])) X0 hx rfl (hb hby at_5) rfl (by decide) ?_
    show Steps p.tables e below (s₁.setTop (mkF m 6 #[.val (.int i0), .unset, .unset, .unset] [(.int ((i0 &&& (2147483647 : Int32)) % (5 : Int32)))])) _
    rw [hk]
    show Steps p.tables e below (s₁.setTop (mkF m 6 #[.val (.int i0), .unset, .unset, .unset] [(.int (4 : Int32))])) _
    refine XS.istoreN X0.here hx rfl (hb hby at_6) rfl (l' := #[.val (.int i0), .val (.int (4 : Int32)), .unset, .unset]) rfl ?_
    show Steps p.tables e below (s₁.setTop (mkF m 7 #[.val (.int i0), .val (.int (4 : Int32)), .unset, .unset] [])) _
    refine XS.iloadN X0.here hx rfl (hb hby at_7) rfl ?_
    show Steps p.tables e below (s₁.setTop (mkF m 8 #[.val (.int i0), .val (.int (4 : Int32)), .unset, .unset] [(.int (4 : Int32))])) _
    refine st1 _ ?_
    show Steps p.tables e below (T1.setTop (mkF m 11 #[.val (.int i0), .val (.int (4 : Int32)), .unset, .unset] [(.ref wVisibility_USER_MANAGED_NOT_VISIBLE)])) _
    refine XS.astoreN X1.here hx rfl (hb hby at_11) rfl rfl (l' := #[.val (.int i0), .val (.int (4 : Int32)), .val (.ref wVisibility_USER_MANAGED_NOT_VISIBLE), .unset]) rfl ?_
    show Steps p.tables e below (T1.setTop (mkF m 12 #[.val (.int i0), .val (.int (4 : Int32)), .val (.ref wVisibility_USER_MANAGED_NOT_VISIBLE), .unset] [])) _
    refine XS.iloadN X1.here hx rfl (hb hby at_12) rfl ?_
    show Steps p.tables e below (T1.setTop (mkF m 13 #[.val (.int i0), .val (.int (4 : Int32)), .val (.ref wVisibility_USER_MANAGED_NOT_VISIBLE), .unset] [(.int (4 : Int32))])) _
    refine XS.iconst X1.here hx rfl (hb hby at_13) ?_
    show Steps p.tables e below (T1.setTop (mkF m 14 #[.val (.int i0), .val (.int (4 : Int32)), .val (.ref wVisibility_USER_MANAGED_NOT_VISIBLE), .unset] [(.int (1 : Int32)), (.int (4 : Int32))])) _
    refine XS.icmpNo X1.here hx rfl (hb hby at_14) rfl (feq (by decide : ¬ ((4 : Int32) = (1 : Int32)))).1 ?_
    show Steps p.tables e below (T1.setTop (mkF m 17 #[.val (.int i0), .val (.int (4 : Int32)), .val (.ref wVisibility_USER_MANAGED_NOT_VISIBLE), .unset] [])) _
    refine XS.iloadN X1.here hx rfl (hb hby at_17) rfl ?_
    show Steps p.tables e below (T1.setTop (mkF m 18 #[.val (.int i0), .val (.int (4 : Int32)), .val (.ref wVisibility_USER_MANAGED_NOT_VISIBLE), .unset] [(.int (4 : Int32))])) _
    refine XS.iconst X1.here hx rfl (hb hby at_18) ?_
    show Steps p.tables e below (T1.setTop (mkF m 19 #[.val (.int i0), .val (.int (4 : Int32)), .val (.ref wVisibility_USER_MANAGED_NOT_VISIBLE), .unset] [(.int (2 : Int32)), (.int (4 : Int32))])) _
    refine XS.icmpYes X1.here hx rfl (pc0 := 19) (pc' := 26) rfl (hb hby at_19) rfl (feq (by decide : ¬ ((4 : Int32) = (2 : Int32)))).2 (by decide) (by decide) ?_
    show Steps p.tables e below (T1.setTop (mkF m 26 #[.val (.int i0), .val (.int (4 : Int32)), .val (.ref wVisibility_USER_MANAGED_NOT_VISIBLE), .unset] [])) _
    refine XS.iconst X1.here hx rfl (hb hby at_26) ?_
    show Steps p.tables e below (T1.setTop (mkF m 27 #[.val (.int i0), .val (.int (4 : Int32)), .val (.ref wVisibility_USER_MANAGED_NOT_VISIBLE), .unset] [(.int (0 : Int32))])) _
    refine XS.istoreN X1.here hx rfl (hb hby at_27) rfl (l' := #[.val (.int i0), .val (.int (4 : Int32)), .val (.ref wVisibility_USER_MANAGED_NOT_VISIBLE), .val (.int (0 : Int32))]) rfl ?_
    show Steps p.tables e below (T1.setTop (mkF m 28 #[.val (.int i0), .val (.int (4 : Int32)), .val (.ref wVisibility_USER_MANAGED_NOT_VISIBLE), .val (.int (0 : Int32))] [])) _
    refine XS.aloadN X1.here hx rfl (hb hby at_28) rfl rfl ?_
    show Steps p.tables e below (T1.setTop (mkF m 29 #[.val (.int i0), .val (.int (4 : Int32)), .val (.ref wVisibility_USER_MANAGED_NOT_VISIBLE), .val (.int (0 : Int32))] [(.ref wVisibility_USER_MANAGED_NOT_VISIBLE)])) _
    refine st2.trans ?_
    show Steps p.tables e below (T2.setTop (mkF m 32 #[.val (.int i0), .val (.int (4 : Int32)), .val (.ref wVisibility_USER_MANAGED_NOT_VISIBLE), .val (.int (0 : Int32))] [(.int (4 : Int32))])) _
    refine XS.iloadN X2.here hx rfl (hb hby at_32) rfl ?_
    show Steps p.tables e below (T2.setTop (mkF m 33 #[.val (.int i0), .val (.int (4 : Int32)), .val (.ref wVisibility_USER_MANAGED_NOT_VISIBLE), .val (.int (0 : Int32))] [(.int (4 : Int32)), (.int (4 : Int32))])) _
    refine XS.icmpNo X2.here hx rfl (hb hby at_33) rfl (teq (by decide : (4 : Int32) = (4 : Int32))).2 ?_
    show Steps p.tables e below (T2.setTop (mkF m 36 #[.val (.int i0), .val (.int (4 : Int32)), .val (.ref wVisibility_USER_MANAGED_NOT_VISIBLE), .val (.int (0 : Int32))] [])) _
    refine XS.aloadN X2.here hx rfl (hb hby at_36) rfl rfl ?_
    show Steps p.tables e below (T2.setTop (mkF m 37 #[.val (.int i0), .val (.int (4 : Int32)), .val (.ref wVisibility_USER_MANAGED_NOT_VISIBLE), .val (.int (0 : Int32))] [(.ref wVisibility_USER_MANAGED_NOT_VISIBLE)])) _
    refine st3.trans ?_
    show Steps p.tables e below (T3.setTop (mkF m 40 #[.val (.int i0), .val (.int (4 : Int32)), .val (.ref wVisibility_USER_MANAGED_NOT_VISIBLE), .val (.int (0 : Int32))] [(.int (0 : Int32))])) _
    refine XS.iloadN X3.here hx rfl (hb hby at_40) rfl ?_
    show Steps p.tables e below (T3.setTop (mkF m 41 #[.val (.int i0), .val (.int (4 : Int32)), .val (.ref wVisibility_USER_MANAGED_NOT_VISIBLE), .val (.int (0 : Int32))] [(.int (0 : Int32)), (.int (0 : Int32))])) _
    refine XS.icmpNo X3.here hx rfl (hb hby at_41) rfl (teq (by decide : (0 : Int32) = (0 : Int32))).2 ?_
    show Steps p.tables e below (T3.setTop (mkF m 44 #[.val (.int i0), .val (.int (4 : Int32)), .val (.ref wVisibility_USER_MANAGED_NOT_VISIBLE), .val (.int (0 : Int32))] [])) _
    refine XS.iconst X3.here hx rfl (hb hby at_44) ?_
    show Steps p.tables e below (T3.setTop (mkF m 45 #[.val (.int i0), .val (.int (4 : Int32)), .val (.ref wVisibility_USER_MANAGED_NOT_VISIBLE), .val (.int (0 : Int32))] [(.int (1 : Int32))])) _
    refine XS.goto X3.here hx rfl (pc0 := 45) (pc' := 49) rfl (hb hby at_45) (by decide) (by decide) ?_
    show Steps p.tables e below (T3.setTop (mkF m 49 #[.val (.int i0), .val (.int (4 : Int32)), .val (.ref wVisibility_USER_MANAGED_NOT_VISIBLE), .val (.int (0 : Int32))] [(.int (1 : Int32))])) _
    exact retN X3 hx (t := .boolean) Bd.returns (by simp) (hb hby at_49) hr
  · exact ⟨rfl, N3, e3⟩
theorem own_r0 (l : Launch) (Z : State) (a0 : Array Value) (hw : ∀ d ∈ tables_1, d.before a0 Z = true) (ws : List Jvm.Cond) (wVisibility_UNDEFINED : Addr) (wVisibility_VISIBLE : Addr) (wVisibility_USER_MANAGED_VISIBLE : Addr) (wVisibility_NOT_VISIBLE : Addr) (wVisibility_USER_MANAGED_NOT_VISIBLE : Addr) (h0 : Heap) (n0 : Nat) (Z0 : n0 ≤ h0.size) (F : own_W Z h0 wVisibility_UNDEFINED wVisibility_VISIBLE wVisibility_USER_MANAGED_VISIBLE wVisibility_NOT_VISIBLE wVisibility_USER_MANAGED_NOT_VISIBLE) (i0 : Int32) :
    MetFree l x (head1 (Jvm.Cond.code x code maxLocals ret :: ws) room_1) (fun a U => a = #[(.int i0)] ∧ Z.Warmed39 U.vm ∧ U.heap = h0) (fun _ _ _ _ _ => True) (fun _ U o U' => ∃ v L, o = .returned v ∧ own_Q (.int (1 : Int32)) h0 n0 v U'.heap L ∧ FrameEnd U o U' L room_1.cells room_1.slots) := by
  rcases own_range i0 with hk | hk | hk | hk | hk
  · exact own_r0_k0 l Z a0 hw ws wVisibility_UNDEFINED wVisibility_VISIBLE wVisibility_USER_MANAGED_VISIBLE wVisibility_NOT_VISIBLE wVisibility_USER_MANAGED_NOT_VISIBLE h0 n0 Z0 F i0 hk
  · exact own_r0_k1 l Z a0 hw ws wVisibility_UNDEFINED wVisibility_VISIBLE wVisibility_USER_MANAGED_VISIBLE wVisibility_NOT_VISIBLE wVisibility_USER_MANAGED_NOT_VISIBLE h0 n0 Z0 F i0 hk
  · exact own_r0_k2 l Z a0 hw ws wVisibility_UNDEFINED wVisibility_VISIBLE wVisibility_USER_MANAGED_VISIBLE wVisibility_NOT_VISIBLE wVisibility_USER_MANAGED_NOT_VISIBLE h0 n0 Z0 F i0 hk
  · exact own_r0_k3 l Z a0 hw ws wVisibility_UNDEFINED wVisibility_VISIBLE wVisibility_USER_MANAGED_VISIBLE wVisibility_NOT_VISIBLE wVisibility_USER_MANAGED_NOT_VISIBLE h0 n0 Z0 F i0 hk
  · exact own_r0_k4 l Z a0 hw ws wVisibility_UNDEFINED wVisibility_VISIBLE wVisibility_USER_MANAGED_VISIBLE wVisibility_NOT_VISIBLE wVisibility_USER_MANAGED_NOT_VISIBLE h0 n0 Z0 F i0 hk
set_option maxRecDepth 65536 in
set_option maxHeartbeats 40000000 in
theorem own_comes {Post : Tables → Env → Array Value → State → Outcome → State → Prop} (hpost : ∀ tb e args s v u, (limb_1_1.after args s (.returned v) u = true ∧ limb_1_2.after args s (.returned v) u = true ∧ True) → FrameEnd s (.returned v) u (Jvm.fieldLocs frame_1_writes args s ++ Jvm.arrayLocs frame_1_arrays args s ++ Jvm.staticLocs frame_1_statics s) 0 0 → Post tb e args s (.returned v) u) :
    ArmFor flags0 classFile x code maxLocals ret World_1 tables_1 room_1 Calls_1 rest_1 Pre_1 Post := by
  intro l hfl _ _ p e ha hc hk s m args below hf hA hF happ hP
  obtain ⟨hcalls, hrest, hpre⟩ := hP
  obtain ⟨-, -, -, hnamed, -, -, -, hat⟩ := (Spec.applies_iff hf).mp happ
  obtain ⟨hg, hn⟩ := and_e (Cond.before_iff.mp (show (Jvm.Cond.and given_1 narrow_1).before args s = true from hpre))
  obtain ⟨gl1, gr1⟩ := and_e hg
  obtain ⟨w0, rfl⟩ : ∃ w0 : Value, args = #[w0] := by
    have hs : args.size = 1 := by simpa [Cond.value, given_1] using gl1
    obtain ⟨L⟩ := args
    match L, hs with
    | [w0], _ => exact ⟨w0, rfl⟩
  have hw := fun d (hd : d ∈ tables_1) => atoms_spec (ws := Jvm.Cond.code x code maxLocals ret :: tables_1) hat d (List.mem_cons_of_mem _ hd)
  obtain ⟨i0, ei0⟩ := is_v gr1
  obtain rfl : w0 = (.int i0) := Option.some.inj ei0
  obtain ⟨nl1, nr1⟩ := and_e hn
  obtain ⟨nl2, nr2⟩ := and_e nr1
  obtain ⟨nl3, nr3⟩ := and_e nr2
  obtain ⟨nl4, nr4⟩ := and_e nr3
  obtain ⟨nl5, nr5⟩ := and_e nr4
  obtain ⟨nl6, nr6⟩ := and_e nr5
  obtain ⟨nl7, nr7⟩ := and_e nr6
  obtain ⟨nl8, nr8⟩ := and_e nr7
  obtain ⟨nl9, nr9⟩ := and_e nr8
  obtain ⟨wVisibility_UNDEFINED, ev_wVisibility_UNDEFINED⟩ := exa_v nl1
  have S_wVisibility_UNDEFINED : Sta s s.heap "io/authlatch/callers/Visibility" "UNDEFINED" "Lio/authlatch/callers/Visibility;" (.ref wVisibility_UNDEFINED) := Sta.start ev_wVisibility_UNDEFINED (Or.inr ⟨(hw _ (List.mem_of_getElem? (i := 6) rfl)), (hw _ (List.mem_of_getElem? (i := 7) rfl))⟩)
  have E_wVisibility_UNDEFINED : Exa s s.heap wVisibility_UNDEFINED "io/authlatch/callers/Visibility" := Exa.start ev_wVisibility_UNDEFINED nl1
  obtain ⟨wVisibility_VISIBLE, ev_wVisibility_VISIBLE⟩ := exa_v nl3
  have S_wVisibility_VISIBLE : Sta s s.heap "io/authlatch/callers/Visibility" "VISIBLE" "Lio/authlatch/callers/Visibility;" (.ref wVisibility_VISIBLE) := Sta.start ev_wVisibility_VISIBLE (Or.inr ⟨(hw _ (List.mem_of_getElem? (i := 6) rfl)), (hw _ (List.mem_of_getElem? (i := 28) rfl))⟩)
  have E_wVisibility_VISIBLE : Exa s s.heap wVisibility_VISIBLE "io/authlatch/callers/Visibility" := Exa.start ev_wVisibility_VISIBLE nl3
  obtain ⟨wVisibility_USER_MANAGED_VISIBLE, ev_wVisibility_USER_MANAGED_VISIBLE⟩ := exa_v nl5
  have S_wVisibility_USER_MANAGED_VISIBLE : Sta s s.heap "io/authlatch/callers/Visibility" "USER_MANAGED_VISIBLE" "Lio/authlatch/callers/Visibility;" (.ref wVisibility_USER_MANAGED_VISIBLE) := Sta.start ev_wVisibility_USER_MANAGED_VISIBLE (Or.inr ⟨(hw _ (List.mem_of_getElem? (i := 6) rfl)), (hw _ (List.mem_of_getElem? (i := 30) rfl))⟩)
  have E_wVisibility_USER_MANAGED_VISIBLE : Exa s s.heap wVisibility_USER_MANAGED_VISIBLE "io/authlatch/callers/Visibility" := Exa.start ev_wVisibility_USER_MANAGED_VISIBLE nl5
  obtain ⟨wVisibility_NOT_VISIBLE, ev_wVisibility_NOT_VISIBLE⟩ := exa_v nl7
  have S_wVisibility_NOT_VISIBLE : Sta s s.heap "io/authlatch/callers/Visibility" "NOT_VISIBLE" "Lio/authlatch/callers/Visibility;" (.ref wVisibility_NOT_VISIBLE) := Sta.start ev_wVisibility_NOT_VISIBLE (Or.inr ⟨(hw _ (List.mem_of_getElem? (i := 6) rfl)), (hw _ (List.mem_of_getElem? (i := 32) rfl))⟩)
  have E_wVisibility_NOT_VISIBLE : Exa s s.heap wVisibility_NOT_VISIBLE "io/authlatch/callers/Visibility" := Exa.start ev_wVisibility_NOT_VISIBLE nl7
  obtain ⟨wVisibility_USER_MANAGED_NOT_VISIBLE, ev_wVisibility_USER_MANAGED_NOT_VISIBLE⟩ := exa_v nl9
  have S_wVisibility_USER_MANAGED_NOT_VISIBLE : Sta s s.heap "io/authlatch/callers/Visibility" "USER_MANAGED_NOT_VISIBLE" "Lio/authlatch/callers/Visibility;" (.ref wVisibility_USER_MANAGED_NOT_VISIBLE) := Sta.start ev_wVisibility_USER_MANAGED_NOT_VISIBLE (Or.inr ⟨(hw _ (List.mem_of_getElem? (i := 6) rfl)), (hw _ (List.mem_of_getElem? (i := 35) rfl))⟩)
  have E_wVisibility_USER_MANAGED_NOT_VISIBLE : Exa s s.heap wVisibility_USER_MANAGED_NOT_VISIBLE "io/authlatch/callers/Visibility" := Exa.start ev_wVisibility_USER_MANAGED_NOT_VISIBLE nl9
  have F_wVisibility_UNDEFINED_ordinal : Fld s s.heap wVisibility_UNDEFINED "java/lang/Enum" "ordinal" "I" (.int (0 : Int32)) := Fld.start ((fld_at ev_wVisibility_UNDEFINED).symm.trans (own_eqI nl2 rfl))
  have F_wVisibility_VISIBLE_ordinal : Fld s s.heap wVisibility_VISIBLE "java/lang/Enum" "ordinal" "I" (.int (1 : Int32)) := Fld.start ((fld_at ev_wVisibility_VISIBLE).symm.trans (own_eqI nl4 rfl))
  have F_wVisibility_USER_MANAGED_VISIBLE_ordinal : Fld s s.heap wVisibility_USER_MANAGED_VISIBLE "java/lang/Enum" "ordinal" "I" (.int (2 : Int32)) := Fld.start ((fld_at ev_wVisibility_USER_MANAGED_VISIBLE).symm.trans (own_eqI nl6 rfl))
  have F_wVisibility_NOT_VISIBLE_ordinal : Fld s s.heap wVisibility_NOT_VISIBLE "java/lang/Enum" "ordinal" "I" (.int (3 : Int32)) := Fld.start ((fld_at ev_wVisibility_NOT_VISIBLE).symm.trans (own_eqI nl8 rfl))
  have F_wVisibility_USER_MANAGED_NOT_VISIBLE_ordinal : Fld s s.heap wVisibility_USER_MANAGED_NOT_VISIBLE "java/lang/Enum" "ordinal" "I" (.int (4 : Int32)) := Fld.start ((fld_at ev_wVisibility_USER_MANAGED_NOT_VISIBLE).symm.trans (own_eqI nr9 rfl))
  have ne_wVisibility_UNDEFINED_wVisibility_VISIBLE : wVisibility_UNDEFINED ≠ wVisibility_VISIBLE := own_ne F_wVisibility_UNDEFINED_ordinal F_wVisibility_VISIBLE_ordinal (by simp)
  have ne_wVisibility_UNDEFINED_wVisibility_USER_MANAGED_VISIBLE : wVisibility_UNDEFINED ≠ wVisibility_USER_MANAGED_VISIBLE := own_ne F_wVisibility_UNDEFINED_ordinal F_wVisibility_USER_MANAGED_VISIBLE_ordinal (by simp)
  have ne_wVisibility_UNDEFINED_wVisibility_NOT_VISIBLE : wVisibility_UNDEFINED ≠ wVisibility_NOT_VISIBLE := own_ne F_wVisibility_UNDEFINED_ordinal F_wVisibility_NOT_VISIBLE_ordinal (by simp)
  have ne_wVisibility_UNDEFINED_wVisibility_USER_MANAGED_NOT_VISIBLE : wVisibility_UNDEFINED ≠ wVisibility_USER_MANAGED_NOT_VISIBLE := own_ne F_wVisibility_UNDEFINED_ordinal F_wVisibility_USER_MANAGED_NOT_VISIBLE_ordinal (by simp)
  have ne_wVisibility_VISIBLE_wVisibility_USER_MANAGED_VISIBLE : wVisibility_VISIBLE ≠ wVisibility_USER_MANAGED_VISIBLE := own_ne F_wVisibility_VISIBLE_ordinal F_wVisibility_USER_MANAGED_VISIBLE_ordinal (by simp)
  have ne_wVisibility_VISIBLE_wVisibility_NOT_VISIBLE : wVisibility_VISIBLE ≠ wVisibility_NOT_VISIBLE := own_ne F_wVisibility_VISIBLE_ordinal F_wVisibility_NOT_VISIBLE_ordinal (by simp)
  have ne_wVisibility_VISIBLE_wVisibility_USER_MANAGED_NOT_VISIBLE : wVisibility_VISIBLE ≠ wVisibility_USER_MANAGED_NOT_VISIBLE := own_ne F_wVisibility_VISIBLE_ordinal F_wVisibility_USER_MANAGED_NOT_VISIBLE_ordinal (by simp)
  have ne_wVisibility_USER_MANAGED_VISIBLE_wVisibility_NOT_VISIBLE : wVisibility_USER_MANAGED_VISIBLE ≠ wVisibility_NOT_VISIBLE := own_ne F_wVisibility_USER_MANAGED_VISIBLE_ordinal F_wVisibility_NOT_VISIBLE_ordinal (by simp)
  have ne_wVisibility_USER_MANAGED_VISIBLE_wVisibility_USER_MANAGED_NOT_VISIBLE : wVisibility_USER_MANAGED_VISIBLE ≠ wVisibility_USER_MANAGED_NOT_VISIBLE := own_ne F_wVisibility_USER_MANAGED_VISIBLE_ordinal F_wVisibility_USER_MANAGED_NOT_VISIBLE_ordinal (by simp)
  have ne_wVisibility_NOT_VISIBLE_wVisibility_USER_MANAGED_NOT_VISIBLE : wVisibility_NOT_VISIBLE ≠ wVisibility_USER_MANAGED_NOT_VISIBLE := own_ne F_wVisibility_NOT_VISIBLE_ordinal F_wVisibility_USER_MANAGED_NOT_VISIBLE_ordinal (by simp)
  have F : own_W s s.heap wVisibility_UNDEFINED wVisibility_VISIBLE wVisibility_USER_MANAGED_VISIBLE wVisibility_NOT_VISIBLE wVisibility_USER_MANAGED_NOT_VISIBLE := ⟨S_wVisibility_UNDEFINED, E_wVisibility_UNDEFINED, S_wVisibility_VISIBLE, E_wVisibility_VISIBLE, S_wVisibility_USER_MANAGED_VISIBLE, E_wVisibility_USER_MANAGED_VISIBLE, S_wVisibility_NOT_VISIBLE, E_wVisibility_NOT_VISIBLE, S_wVisibility_USER_MANAGED_NOT_VISIBLE, E_wVisibility_USER_MANAGED_NOT_VISIBLE, F_wVisibility_UNDEFINED_ordinal, F_wVisibility_VISIBLE_ordinal, F_wVisibility_USER_MANAGED_VISIBLE_ordinal, F_wVisibility_NOT_VISIBLE_ordinal, F_wVisibility_USER_MANAGED_NOT_VISIBLE_ordinal, ne_wVisibility_UNDEFINED_wVisibility_VISIBLE, ne_wVisibility_UNDEFINED_wVisibility_USER_MANAGED_VISIBLE, ne_wVisibility_UNDEFINED_wVisibility_NOT_VISIBLE, ne_wVisibility_UNDEFINED_wVisibility_USER_MANAGED_NOT_VISIBLE, ne_wVisibility_VISIBLE_wVisibility_USER_MANAGED_VISIBLE, ne_wVisibility_VISIBLE_wVisibility_NOT_VISIBLE, ne_wVisibility_VISIBLE_wVisibility_USER_MANAGED_NOT_VISIBLE, ne_wVisibility_USER_MANAGED_VISIBLE_wVisibility_NOT_VISIBLE, ne_wVisibility_USER_MANAGED_VISIBLE_wVisibility_USER_MANAGED_NOT_VISIBLE, ne_wVisibility_NOT_VISIBLE_wVisibility_USER_MANAGED_NOT_VISIBLE⟩
  obtain ⟨n, o, h1, h2, h3, _, L, rfl, ⟨rfl, N, -⟩, hq⟩ := own_r0 l s _ hw tables_1 wVisibility_UNDEFINED wVisibility_VISIBLE wVisibility_USER_MANAGED_VISIBLE wVisibility_NOT_VISIBLE wVisibility_USER_MANAGED_NOT_VISIBLE s.heap s.heap.size (Nat.le_refl _) F i0 p e ha hc hk s m _ below hf ((Spec.applies_iff_loose hf).mp happ).1 ⟨rfl, State.Warmed39.refl s, rfl⟩ trivial
  refine ⟨n, _, h1, h2, h3, hpost _ _ _ _ _ _ ⟨Cond.after_iff.mpr rfl, Cond.after_iff.mpr (eq_i res_at (Term.int_eval (1)) rfl), trivial⟩ ⟨hq.1, hq.2.1, (hq.2.2.sift fun y hy => Or.inr (N y hy)).mono (by decide) (by decide)⟩⟩
theorem main_1_1 : Claimed_1_1 := own_comes fun _ _ _ _ _ _ h hF => ⟨h.1, hF⟩
theorem main_1_2 : Claimed_1_2 := own_comes fun _ _ _ _ _ _ h hF => ⟨h.2.1, hF⟩
end Jvm.Pilot.@@N@@
namespace Jvm.Pilot.@@N@@
open Jvm Jvm.ClassFile Sem Op Lib Jvm.Free Jvm.Stand Jvm.Pilot.@@N@@.Jvm.D
/-! MADE BY PROGRAM (witnessworld.py) out of the Statement's table words and the real class files: 10 classes; the members and pool entries that the words name. The judged class is class 1, her method 1. -/
namespace start1
open Jvm.ClassFile
def u (s : String) : CpInfo := .utf8 (stringToUtf16 s)
/-- a pool by its gaps: so many unusable entries, then the entry; so many at the end -/
def gap : Nat → List CpInfo → List CpInfo
  | 0, r => r
  | n + 1, r => .unusable :: gap n r
def poolList (es : List (Nat × CpInfo)) (last : Nat) : List CpInfo := es.foldr (fun e r => gap e.1 (e.2 :: r)) (gap last [])
def pool (es : List (Nat × CpInfo)) (last : Nat) : Array CpInfo := ⟨poolList es last⟩
def fileOf (pool : Array CpInfo) (this : Nat) (attrs : Array Attribute := #[]) (ms : Array MethodInfo := #[]) (fl : Nat := 33) (sup : Nat := 0) (ifs : Array Nat := #[]) (fds : Array FieldInfo := #[]) : ClassFile where
  minorVersion := 0
  majorVersion := 65
  constantPool := pool
  accessFlags := fl
  thisClass := this
  superClass := sup
  interfaces := ifs
  fields := fds
  methods := ms
  attributes := attrs
def plain (name : String) (sup : Option ClassId) : Class where
  name := name
  kind := .ordinary
  loader := none
  accessFlags := 33
  super := sup
  interfaces := #[]
  cf := none
  fields := #[]
  methods := #[]
  instanceTypes := #[]
  staticTypes := #[]
  resolved := #[]
  callSites := []
  init := .initialized
  statics := none
  mirror := none

def pool0 : Array CpInfo := pool [(5, u "<init>"), (0, u "()V"), (1, .class_ 10), (1, u "java/lang/Object")] 113

def k0m0 : Method := { name := "<init>", desc := "()V", sig := { parameters := [], returnType := none }, accessFlags := 1, code := none }
/-- java/lang/Object -/
def k0 : Class := { plain "java/lang/Object" none with
  accessFlags := 33
  interfaces := #[]
  cf := some (fileOf pool0 8 #[] #[{ accessFlags := 1, nameIndex := 5, descriptorIndex := 6, attributes := #[] }] 33 0 #[] #[])
  fields := #[]
  methods := #[k0m0]
  instanceTypes := #[]
  staticTypes := #[]
  resolved := Array.replicate 124 none
  statics := none }

def pool1 : Array CpInfo := pool [(2, .class_ 4), (1, u "java/lang/Object"), (0, u "<init>"), (0, u "()V"), (0, .integer 2147483647), (0, .methodref 9 10), (0, .class_ 11), (0, .nameAndType 12 13), (0, u "io/authlatch/callers/VisibilityServedPinLaw"), (0, u "pick"), (0, u "(I)Lio/authlatch/callers/Visibility;"), (0, .methodref 15 16), (0, .class_ 17), (0, .nameAndType 18 19), (0, u "io/authlatch/callers/Visibility"), (0, u "number"), (0, u "()I"), (0, .methodref 15 21), (0, .nameAndType 22 23), (0, u "served"), (0, u "()Z"), (0, .fieldref 15 25), (0, .nameAndType 26 27), (0, u "UNDEFINED"), (0, u "Lio/authlatch/callers/Visibility;"), (0, .fieldref 15 29), (0, .nameAndType 30 27), (0, u "VISIBLE"), (0, .fieldref 15 32), (0, .nameAndType 33 27), (0, u "USER_MANAGED_VISIBLE"), (0, .fieldref 15 35), (0, .nameAndType 36 27), (0, u "NOT_VISIBLE"), (0, .fieldref 15 38), (0, .nameAndType 39 27), (0, u "USER_MANAGED_NOT_VISIBLE"), (2, u "law"), (0, u "(I)Z")] 3

def k1m0 : Method := { name := "<init>", desc := "()V", sig := { parameters := [], returnType := none }, accessFlags := 1, code := none }
def k1c1 : Code := { maxStack := 2, maxLocals := 4, code := code, exceptionTable := #[], attributes := #[] }
def k1m1 : Method := { name := "law", desc := "(I)Z", sig := { parameters := [.int], returnType := some .boolean }, accessFlags := 9, code := some k1c1 }
def k1c2 : Code := { maxStack := 2, maxLocals := 1, code := method_3_code, exceptionTable := #[], attributes := #[] }
def k1m2 : Method := { name := "pick", desc := "(I)Lio/authlatch/callers/Visibility;", sig := { parameters := [.int], returnType := some (.object "io/authlatch/callers/Visibility") }, accessFlags := 10, code := some k1c2 }
/-- io/authlatch/callers/VisibilityServedPinLaw -/
def k1 : Class := { plain "io/authlatch/callers/VisibilityServedPinLaw" (some 0) with
  accessFlags := 49
  interfaces := #[]
  cf := some (fileOf pool1 9 #[] #[{ accessFlags := 1, nameIndex := 5, descriptorIndex := 6, attributes := #[] }, { accessFlags := 9, nameIndex := 42, descriptorIndex := 43, attributes := #[] }, { accessFlags := 10, nameIndex := 12, descriptorIndex := 13, attributes := #[] }] 49 2 #[] #[])
  fields := #[]
  methods := #[k1m0, k1m1, k1m2]
  instanceTypes := #[]
  staticTypes := #[]
  resolved := Array.replicate 47 none
  statics := none }

def pool2 : Array CpInfo := pool [(1, .class_ 2), (0, u "java/lang/constant/Constable"), (0, .class_ 4), (0, u "java/lang/Object")] 6

/-- java/lang/constant/Constable -/
def k2 : Class := { plain "java/lang/constant/Constable" (some 0) with
  accessFlags := 1537
  interfaces := #[]
  cf := some (fileOf pool2 1 #[] #[] 1537 3 #[] #[])
  fields := #[]
  methods := #[]
  instanceTypes := #[]
  staticTypes := #[]
  resolved := Array.replicate 11 none
  statics := none }

def pool3 : Array CpInfo := pool [(1, .class_ 2), (0, u "java/lang/Comparable"), (0, .class_ 4), (0, u "java/lang/Object")] 7

/-- java/lang/Comparable -/
def k3 : Class := { plain "java/lang/Comparable" (some 0) with
  accessFlags := 1537
  interfaces := #[]
  cf := some (fileOf pool3 1 #[] #[] 1537 3 #[] #[])
  fields := #[]
  methods := #[]
  instanceTypes := #[]
  staticTypes := #[]
  resolved := Array.replicate 12 none
  statics := none }

def pool4 : Array CpInfo := pool [(1, .class_ 2), (0, u "java/io/Serializable"), (0, .class_ 4), (0, u "java/lang/Object")] 2

/-- java/io/Serializable -/
def k4 : Class := { plain "java/io/Serializable" (some 0) with
  accessFlags := 1537
  interfaces := #[]
  cf := some (fileOf pool4 1 #[] #[] 1537 3 #[] #[])
  fields := #[]
  methods := #[]
  instanceTypes := #[]
  staticTypes := #[]
  resolved := Array.replicate 7 none
  statics := none }

def pool5 : Array CpInfo := pool [(2, .class_ 4), (1, u "java/lang/Enum"), (0, u "name"), (0, u "Ljava/lang/String;"), (0, .fieldref 2 8), (0, .nameAndType 9 10), (0, u "ordinal"), (0, u "I"), (1, .class_ 14), (1, u "java/lang/Object"), (4, u "hash"), (86, .class_ 108), (1, u "java/lang/Enum$EnumDesc"), (2, .class_ 112), (0, u "java/lang/constant/Constable"), (0, .class_ 114), (0, u "java/lang/Comparable"), (0, .class_ 116), (0, u "java/io/Serializable"), (9, u "()I")] 77

def k5c0 : Code := { maxStack := 1, maxLocals := 1, code := jdk_37_method_2_code, exceptionTable := #[], attributes := #[] }
def k5m0 : Method := { name := "ordinal", desc := "()I", sig := { parameters := [], returnType := some .int }, accessFlags := 17, code := some k5c0 }
/-- java/lang/Enum -/
def k5 : Class := { plain "java/lang/Enum" (some 0) with
  accessFlags := 1057
  interfaces := #[2, 3, 4]
  cf := some (fileOf pool5 2 #[.nestMembers #[106]] #[{ accessFlags := 17, nameIndex := 9, descriptorIndex := 126, attributes := #[] }] 1057 12 #[111, 113, 115] #[{ accessFlags := 18, nameIndex := 5, descriptorIndex := 6, attributes := #[] }, { accessFlags := 18, nameIndex := 9, descriptorIndex := 10, attributes := #[] }, { accessFlags := 2, nameIndex := 19, descriptorIndex := 10, attributes := #[] }])
  fields := #[{ name := "name", type := (.object "java/lang/String"), accessFlags := 18, slot := 0, constantValue := 0 }, { name := "ordinal", type := .int, accessFlags := 18, slot := 1, constantValue := 0 }, { name := "hash", type := .int, accessFlags := 2, slot := 2, constantValue := 0 }]
  methods := #[k5m0]
  instanceTypes := #[(.object "java/lang/String"), .int, .int]
  staticTypes := #[]
  resolved := Array.replicate 204 none
  statics := none }

def pool6 : Array CpInfo := pool [(1, .class_ 2), (0, u "io/authlatch/callers/Visibility"), (2, u "UNDEFINED"), (0, u "Lio/authlatch/callers/Visibility;"), (0, .fieldref 1 8), (0, .nameAndType 9 6), (0, u "VISIBLE"), (0, .fieldref 1 11), (0, .nameAndType 12 6), (0, u "USER_MANAGED_VISIBLE"), (2, u "NOT_VISIBLE"), (2, u "USER_MANAGED_NOT_VISIBLE"), (2, u "$VALUES"), (0, u "[Lio/authlatch/callers/Visibility;"), (6, .class_ 31), (1, u "java/lang/Enum"), (34, u "()I"), (11, .methodref 1 79), (0, .nameAndType 80 66), (0, u "ordinal"), (2, u "number"), (20, u "served"), (0, u "()Z")] 6

def k6c0 : Code := { maxStack := 1, maxLocals := 1, code := prog_32_method_6_code, exceptionTable := #[], attributes := #[] }
def k6m0 : Method := { name := "number", desc := "()I", sig := { parameters := [], returnType := some .int }, accessFlags := 1, code := some k6c0 }
def k6c1 : Code := { maxStack := 2, maxLocals := 1, code := prog_32_method_7_code, exceptionTable := #[], attributes := #[] }
def k6m1 : Method := { name := "served", desc := "()Z", sig := { parameters := [], returnType := some .boolean }, accessFlags := 1, code := some k6c1 }
/-- io/authlatch/callers/Visibility -/
def k6 : Class := { plain "io/authlatch/callers/Visibility" (some 5) with
  accessFlags := 16433
  interfaces := #[]
  cf := some (fileOf pool6 1 #[] #[{ accessFlags := 1, nameIndex := 83, descriptorIndex := 66, attributes := #[] }, { accessFlags := 1, nameIndex := 104, descriptorIndex := 105, attributes := #[] }] 16433 29 #[] #[{ accessFlags := 16409, nameIndex := 5, descriptorIndex := 6, attributes := #[] }, { accessFlags := 16409, nameIndex := 9, descriptorIndex := 6, attributes := #[] }, { accessFlags := 16409, nameIndex := 12, descriptorIndex := 6, attributes := #[] }, { accessFlags := 16409, nameIndex := 15, descriptorIndex := 6, attributes := #[] }, { accessFlags := 16409, nameIndex := 18, descriptorIndex := 6, attributes := #[] }, { accessFlags := 4122, nameIndex := 21, descriptorIndex := 22, attributes := #[] }])
  fields := #[{ name := "UNDEFINED", type := (.object "io/authlatch/callers/Visibility"), accessFlags := 16409, slot := 0, constantValue := 0 }, { name := "VISIBLE", type := (.object "io/authlatch/callers/Visibility"), accessFlags := 16409, slot := 1, constantValue := 0 }, { name := "USER_MANAGED_VISIBLE", type := (.object "io/authlatch/callers/Visibility"), accessFlags := 16409, slot := 2, constantValue := 0 }, { name := "NOT_VISIBLE", type := (.object "io/authlatch/callers/Visibility"), accessFlags := 16409, slot := 3, constantValue := 0 }, { name := "USER_MANAGED_NOT_VISIBLE", type := (.object "io/authlatch/callers/Visibility"), accessFlags := 16409, slot := 4, constantValue := 0 }, { name := "$VALUES", type := (.array (.object "io/authlatch/callers/Visibility")), accessFlags := 4122, slot := 5, constantValue := 0 }]
  methods := #[k6m0, k6m1]
  instanceTypes := #[(.object "java/lang/String"), .int, .int]
  staticTypes := #[(.object "io/authlatch/callers/Visibility"), (.object "io/authlatch/callers/Visibility"), (.object "io/authlatch/callers/Visibility"), (.object "io/authlatch/callers/Visibility"), (.object "io/authlatch/callers/Visibility"), (.array (.object "io/authlatch/callers/Visibility"))]
  resolved := Array.replicate 112 none
  statics := some 0 }

def pool7 : Array CpInfo := pool [(1, u "java/lang/Cloneable"), (0, .class_ 1), (0, u "java/lang/Object"), (0, .class_ 3)] 3

/-- java/lang/Cloneable -/
def k7 : Class := { plain "java/lang/Cloneable" (some 0) with
  accessFlags := 1537
  interfaces := #[]
  cf := some (fileOf pool7 2 #[] #[] 1537 4 #[] #[])
  fields := #[]
  methods := #[]
  instanceTypes := #[]
  staticTypes := #[]
  resolved := Array.replicate 8 none
  statics := none }

/-- the primitive byte -/
def k8 : Class := { plain "byte" none with kind := .primitive 'B', accessFlags := 0x411 }
/-- [B -/
def k9 : Class := { plain "[B" (some 0) with kind := .array 8 .byte, interfaces := #[7, 4], accessFlags := 1041 }

def heap : Heap := #[{ cls := 6, slots := #[.ref 1, .ref 2, .ref 3, .ref 4, .ref 5, .null], vm := .statics 6 },
  { cls := 6, slots := #[.null, .int 0, .int 0], vm := .none },
  { cls := 6, slots := #[.null, .int 1, .int 0], vm := .none },
  { cls := 6, slots := #[.null, .int 2, .int 0], vm := .none },
  { cls := 6, slots := #[.null, .int 3, .int 0], vm := .none },
  { cls := 6, slots := #[.null, .int 4, .int 0], vm := .none }]
def classes : Array Class := #[k0, k1, k2, k3, k4, k5, k6, k7, k8, k9]
def interned : List (Array UInt16 × Addr) := []
def slotsUsed : Nat := 21
def theMethod : MethodId := ⟨1, 1⟩
def args0 : Array Value := #[.int 3]
def aboutOver (below : List Frame) : State where
  vm := { classes := classes, interned := interned.toArray }
  heap := heap
  slotsUsed := slotsUsed
  threads := #[{ frames := .invoking theMethod args0 :: below }]
def below0 : List Frame := [.native { method := ⟨0, 0⟩, args := #[] }]
def about1 : State := aboutOver below0
def p0 : Program := .bare "" "" ""
def e0 : Env := launch0.env 0 0 0
theorem w_frames : about1.frames = Frame.invoking theMethod args0 :: below0 := rfl
set_option maxRecDepth 65536 in
theorem w_args : argsFit about1.vm theMethod args0 = true := by decide +kernel
set_option maxRecDepth 65536 in
theorem w_heap : heapFits about1 = true := by decide +kernel
set_option maxRecDepth 65536 in
theorem w_runnable : about1.curStatus? = some .runnable := by decide +kernel
set_option maxRecDepth 65536 in
theorem w_alone : about1.alone = true := by decide +kernel
set_option maxRecDepth 65536 in
theorem w_named : about1.methodNamed? x = some theMethod := by decide +kernel
set_option maxRecDepth 65536 in
theorem w_hears : about1.hears theMethod below0 = true := by decide +kernel
set_option maxRecDepth 65536 in
theorem w_ripe : about1.ripe theMethod args0 below0 = true := by decide +kernel
theorem w_running : about1.status = .running := rfl
set_option maxRecDepth 65536 in
theorem w_room : about1.hasRoom e0.platform room_1 = true :=
  launch0.hasRoom_least _ room_1 (by decide +kernel) (by decide +kernel) (by decide +kernel) (by decide +kernel) (by decide +kernel) (by decide +kernel)
theorem allAtoms_all (ts : List Jvm.Cond) (a : Array Jvm.Value) (st : Jvm.State) : (allAtoms ts).before a st = ts.all (fun c => c.before a st) := by
  induction ts with
  | nil => rfl
  | cons c t ih =>
    show (Jvm.Cond.and c (allAtoms t)).before a st = _
    rw [Jvm.Cond.before_and, ih, List.all_cons]
def words1 : List Jvm.Cond := Jvm.Cond.code x code maxLocals ret :: tables_1
/-- a 'code' word, met by the world's own term for the bytes: nothing is compared byte by byte -/
theorem code_word {y : MethodName} {bytes : ByteArray} {mx : Nat} {rt : Option FieldType} {a : Array Value} {s : State} {m : MethodId} {meth : Method} {c : Code} (h1 : s.methodNamed? y = some m) (h2 : s.vm.method? m = some meth) (h3 : meth.code = some c) (h4 : c.code = bytes)
    (h5 : (c.maxLocals == mx && c.exceptionTable.isEmpty && decide (c.maxStack ≤ mostOperands) && decide (meth.sig.returnType = rt) && !meth.locks && decide (parseMethodDescriptor y.desc = some meth.sig)) = true) : (Jvm.Cond.code y bytes mx rt).before a s = true := by
  simp only [Bool.and_eq_true, beq_iff_eq, Bool.not_eq_true', decide_eq_true_eq] at h5
  obtain ⟨⟨⟨⟨⟨g1, g2⟩, g3⟩, g4⟩, g5⟩, g6⟩ := h5
  simp [Cond.before, Cond.holds, Cond.value, h1, h2, h3, h4, g1, g2, g3, g4, g5, g6]
def isCode : Jvm.Cond → Bool
  | .code _ _ _ _ => true
  | _ => false
theorem all_split {L : List Jvm.Cond} {P : Jvm.Cond → Bool} (h1 : L.all (fun c => isCode c || P c) = true) (h2 : ∀ c ∈ L.filter isCode, P c = true) : L.all P = true := by
  refine List.all_eq_true.mpr fun c hc => ?_
  have h := List.all_eq_true.mp h1 c hc
  rcases Bool.eq_false_or_eq_true (isCode c) with hi | hi
  · exact h2 c (List.mem_filter.mpr ⟨hc, hi⟩)
  · simpa [hi] using h
set_option maxRecDepth 65536 in
theorem w_c0 : (Jvm.Cond.code x code maxLocals ret).before args0 about1 = true := code_word (m := ⟨1, 1⟩) (meth := k1m1) (c := k1c1) (by decide +kernel) rfl rfl rfl (by decide +kernel)
set_option maxRecDepth 65536 in
theorem w_c1 : (Jvm.Cond.code ({ cls := "io/authlatch/callers/VisibilityServedPinLaw", name := "pick", desc := "(I)Lio/authlatch/callers/Visibility;" } : Jvm.MethodName) method_3_code (1 : Nat) (Option.some (Jvm.ClassFile.FieldType.object "io/authlatch/callers/Visibility"))).before args0 about1 = true := code_word (m := ⟨1, 2⟩) (meth := k1m2) (c := k1c2) (by decide +kernel) rfl rfl rfl (by decide +kernel)
set_option maxRecDepth 65536 in
theorem w_c2 : (Jvm.Cond.code ({ cls := "io/authlatch/callers/Visibility", name := "number", desc := "()I" } : Jvm.MethodName) prog_32_method_6_code (1 : Nat) (Option.some Jvm.ClassFile.FieldType.int)).before args0 about1 = true := code_word (m := ⟨6, 0⟩) (meth := k6m0) (c := k6c0) (by decide +kernel) rfl rfl rfl (by decide +kernel)
set_option maxRecDepth 65536 in
theorem w_c3 : (Jvm.Cond.code ({ cls := "java/lang/Enum", name := "ordinal", desc := "()I" } : Jvm.MethodName) jdk_37_method_2_code (1 : Nat) (Option.some Jvm.ClassFile.FieldType.int)).before args0 about1 = true := code_word (m := ⟨5, 0⟩) (meth := k5m0) (c := k5c0) (by decide +kernel) rfl rfl rfl (by decide +kernel)
set_option maxRecDepth 65536 in
theorem w_c4 : (Jvm.Cond.code ({ cls := "io/authlatch/callers/Visibility", name := "served", desc := "()Z" } : Jvm.MethodName) prog_32_method_7_code (1 : Nat) (Option.some Jvm.ClassFile.FieldType.boolean)).before args0 about1 = true := code_word (m := ⟨6, 1⟩) (meth := k6m1) (c := k6c1) (by decide +kernel) rfl rfl rfl (by decide +kernel)
def codes1 : List Jvm.Cond := [Jvm.Cond.code x code maxLocals ret, Jvm.Cond.code ({ cls := "io/authlatch/callers/VisibilityServedPinLaw", name := "pick", desc := "(I)Lio/authlatch/callers/Visibility;" } : Jvm.MethodName) method_3_code (1 : Nat) (Option.some (Jvm.ClassFile.FieldType.object "io/authlatch/callers/Visibility")), Jvm.Cond.code ({ cls := "io/authlatch/callers/Visibility", name := "number", desc := "()I" } : Jvm.MethodName) prog_32_method_6_code (1 : Nat) (Option.some Jvm.ClassFile.FieldType.int), Jvm.Cond.code ({ cls := "java/lang/Enum", name := "ordinal", desc := "()I" } : Jvm.MethodName) jdk_37_method_2_code (1 : Nat) (Option.some Jvm.ClassFile.FieldType.int), Jvm.Cond.code ({ cls := "io/authlatch/callers/Visibility", name := "served", desc := "()Z" } : Jvm.MethodName) prog_32_method_7_code (1 : Nat) (Option.some Jvm.ClassFile.FieldType.boolean)]
set_option maxRecDepth 65536 in
theorem codes_eq : words1.filter isCode = codes1 := rfl
theorem w_codes : ∀ c ∈ words1.filter isCode, c.before args0 about1 = true := by
  rw [codes_eq]
  intro c hc
  simp only [codes1, List.mem_cons, List.not_mem_nil, or_false] at hc
  rcases hc with rfl | rfl | rfl | rfl | rfl
  · exact w_c0
  · exact w_c1
  · exact w_c2
  · exact w_c3
  · exact w_c4
set_option maxRecDepth 65536 in
theorem w_t1 : (words1.take 24).all (fun c => isCode c || c.before args0 about1) = true := by decide +kernel
set_option maxRecDepth 65536 in
theorem w_t2 : (words1.drop 24).all (fun c => isCode c || c.before args0 about1) = true := by decide +kernel
theorem w_tables : (allAtoms (Jvm.Cond.code x code maxLocals ret :: tables_1)).before args0 about1 = true := by
  rw [allAtoms_all]
  show words1.all (fun c => c.before args0 about1) = true
  refine all_split ?_ w_codes
  rw [← List.take_append_drop 24 words1, List.all_append, w_t1, w_t2]
  rfl
set_option maxRecDepth 65536 in
theorem w_case : (Jvm.Cond.and given_1 narrow_1).before args0 about1 = true := by decide +kernel
theorem w_applies : (headSpec (Jvm.Cond.code x code maxLocals ret :: tables_1) room_1).applies x e0.platform about1 = true :=
  (Spec.applies_iff w_frames).mpr ⟨w_running, w_runnable, w_alone, w_named, w_hears, w_ripe, w_room, w_tables⟩
theorem atStart : AtStart classFile x code maxLocals ret World_1 tables_1 room_1 Calls_1 rest_1 Pre_1 launch0 p0 e0 about1 theMethod args0 below0 :=
  ⟨lists_1, trivial, launch0.admits_env _ _ _, launch0.least_env, fairChoices_fair.cas, fairChoices_fair.clock, w_frames, w_args, w_heap, w_applies, trivial, trivial, w_case⟩
end start1
theorem witness_1 : WitnessClaimed_1 := ⟨start1.p0, start1.e0, start1.about1, start1.theMethod, start1.args0, start1.below0, start1.atStart⟩
end Jvm.Pilot.@@N@@
