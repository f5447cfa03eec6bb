import JvmDerived
import JvmDerived.Pilot.@@N@@Statement
import JvmDerived.Pilot.@@N@@Code
set_option linter.unusedVariables false
set_option linter.unusedSimpArgs false
namespace Jvm.RoadKit
open Sem ClassFile Op Lib Jvm.Stand Jvm.Free Jvm.LawKit
section New
variable {p : Program} {l : Launch} {e : Env} {R : Room} {s : State} {m : MethodId} {args : Array Value} {below : List Frame} {meth : Method} {c : Code} {T : State} {locs : List Loc} {cells slots : Nat}
theorem retI (X : Stand p l e R s m args below meth c T locs cells slots) (hx : p.tables.exec = Jvm.exec) {pc : Nat} {Ls : Array Slot} {z : Int32} {rest : List Value} (hret : meth.sig.returnType = some .int) (hd : decode c.code pc = .ok (.ireturn, 1)) {fs : List Frame}
    (hl : ∀ (f : JFrame) (acts : List Action), f.method = m → f.locked = none → f.entered = [] → (doReturn e (T.setTop f) acts (some (.int z))).1 = T.setFrames fs) : Steps p.tables e below (T.setTop (mkF m pc Ls (.int z :: rest))) (T.setFrames fs) := by
  have hm' : T.vm.method? m = some meth := X.method'
  have hn : narrow .int (.int z) = .int z := rfl
  show Steps p.tables e below (T.setTop { method := m, pc := pc, locals := Ls, stack := _ :: rest, locked := none }) _
  jvm_step X.here [X.here.top, hx, hd, hm', hret, hn]
  first | (intro acts; rw [hl _ acts rfl rfl rfl]) | rw [hl _ _ rfl rfl rfl]
  exact Steps.refl _
end New
end Jvm.RoadKit
namespace Jvm.Pilot.@@N@@
open Jvm Jvm.ClassFile Sem Op Lib Jvm.Free Jvm.Stand Jvm.LawKit Jvm.RoadKit Bundle Jvm.Pilot.@@N@@.Jvm.D
/-! the case's words as plain facts -/
theorem own_eqI {args : Array Value} {first s : State} {o : Option Outcome} {idx : List Nat} {a b : Term} {z : Int32} (h : (Jvm.Cond.eq a b).value args first o s idx = some true) (hb : b.eval args first o idx s = some (.int z)) : a.eval args first o idx s = some (.int z) := by
  cases ha : a.eval args first o idx s with
  | none => simp [Cond.value, ha] at h
  | some x => cases x <;> simp [Cond.value, ha, hb] at h ⊢; exact h
theorem own_eqR {args : Array Value} {first s : State} {o : Option Outcome} {idx : List Nat} {a b : Term} {z : Addr} (h : (Jvm.Cond.eq a b).value args first o s idx = some true) (hb : b.eval args first o idx s = some (.ref z)) : a.eval args first o idx s = some (.ref z) := by
  cases ha : a.eval args first o idx s with
  | none => simp [Cond.value, ha] at h
  | some x => cases x <;> simp [Cond.value, ha, hb] at h ⊢; exact h
theorem own_ne {Z : State} {h : Heap} {a b : Addr} {C n d : String} {v w : Value} (F : Fld Z h a C n d v) (G : Fld Z h b C n d w) (hne : v ≠ w) : a ≠ b := fun e => by
  subst e
  obtain ⟨c1, cf1, k1, i1, f1, a1, a2, -, -, -, -, a7⟩ := F
  obtain ⟨c2, cf2, k2, i2, f2, b1, b2, -, -, -, -, b7⟩ := G
  cases a1.symm.trans b1
  cases a2.symm.trans b2
  exact hne (Option.some.inj (a7.symm.trans b7))
def own_W (Z : State) (h : Heap) (wEffect_PERMIT : Addr) (wEffect_DENY : Addr) (wVerdict_PERMIT : Addr) (wVerdict_DENY : Addr) (wVerdict_INDETERMINATE_P : Addr) (wVerdict_INDETERMINATE_D : Addr) : Prop := (Sta Z h "com/example/open_verdict/openverdict/Effect" "PERMIT" "Lcom/example/open_verdict/openverdict/Effect;" (.ref wEffect_PERMIT)) ∧ (Exa Z h wEffect_PERMIT "com/example/open_verdict/openverdict/Effect") ∧ (Sta Z h "com/example/open_verdict/openverdict/Effect" "DENY" "Lcom/example/open_verdict/openverdict/Effect;" (.ref wEffect_DENY)) ∧ (Exa Z h wEffect_DENY "com/example/open_verdict/openverdict/Effect") ∧ (Sta Z h "com/example/open_verdict/openverdict/Verdict" "PERMIT" "Lcom/example/open_verdict/openverdict/Verdict;" (.ref wVerdict_PERMIT)) ∧ (Exa Z h wVerdict_PERMIT "com/example/open_verdict/openverdict/Verdict") ∧ (Sta Z h "com/example/open_verdict/openverdict/Verdict" "DENY" "Lcom/example/open_verdict/openverdict/Verdict;" (.ref wVerdict_DENY)) ∧ (Exa Z h wVerdict_DENY "com/example/open_verdict/openverdict/Verdict") ∧ (Sta Z h "com/example/open_verdict/openverdict/Verdict" "INDETERMINATE_P" "Lcom/example/open_verdict/openverdict/Verdict;" (.ref wVerdict_INDETERMINATE_P)) ∧ (Exa Z h wVerdict_INDETERMINATE_P "com/example/open_verdict/openverdict/Verdict") ∧ (Sta Z h "com/example/open_verdict/openverdict/Verdict" "INDETERMINATE_D" "Lcom/example/open_verdict/openverdict/Verdict;" (.ref wVerdict_INDETERMINATE_D)) ∧ (Exa Z h wVerdict_INDETERMINATE_D "com/example/open_verdict/openverdict/Verdict") ∧ (Fld Z h wEffect_DENY "java/lang/Enum" "ordinal" "I" (.int (1 : Int32))) ∧ (Fld Z h wEffect_PERMIT "java/lang/Enum" "ordinal" "I" (.int (0 : Int32))) ∧ (Fld Z h wEffect_PERMIT "com/example/open_verdict/openverdict/Effect" "verdict" "Lcom/example/open_verdict/openverdict/Verdict;" (.ref wVerdict_PERMIT)) ∧ (Fld Z h wEffect_PERMIT "com/example/open_verdict/openverdict/Effect" "indeterminate" "Lcom/example/open_verdict/openverdict/Verdict;" (.ref wVerdict_INDETERMINATE_P)) ∧ (Fld Z h wEffect_DENY "com/example/open_verdict/openverdict/Effect" "verdict" "Lcom/example/open_verdict/openverdict/Verdict;" (.ref wVerdict_DENY)) ∧ (Fld Z h wEffect_DENY "com/example/open_verdict/openverdict/Effect" "indeterminate" "Lcom/example/open_verdict/openverdict/Verdict;" (.ref wVerdict_INDETERMINATE_D)) ∧ (Fld Z h wVerdict_DENY "java/lang/Enum" "ordinal" "I" (.int (1 : Int32))) ∧ (Fld Z h wVerdict_PERMIT "java/lang/Enum" "ordinal" "I" (.int (0 : Int32))) ∧ (Fld Z h wVerdict_INDETERMINATE_D "java/lang/Enum" "ordinal" "I" (.int (3 : Int32))) ∧ (Fld Z h wVerdict_INDETERMINATE_P "java/lang/Enum" "ordinal" "I" (.int (4 : Int32))) ∧ (wEffect_PERMIT ≠ wEffect_DENY) ∧ (wVerdict_PERMIT ≠ wVerdict_DENY) ∧ (wVerdict_PERMIT ≠ wVerdict_INDETERMINATE_P) ∧ (wVerdict_PERMIT ≠ wVerdict_INDETERMINATE_D) ∧ (wVerdict_DENY ≠ wVerdict_INDETERMINATE_P) ∧ (wVerdict_DENY ≠ wVerdict_INDETERMINATE_D) ∧ (wVerdict_INDETERMINATE_P ≠ wVerdict_INDETERMINATE_D)
def own_Q (w : Value) (h0 : Heap) (n0 : Nat) (v : Option Value) (h : Heap) (L : List Loc) : Prop := v = some w ∧ Fr n0 L ∧ h = h0
theorem own_range1 (x : Int32) : (x &&& (1 : Int32)) = 0 ∨ (x &&& (1 : Int32)) = 1 := by
  have h1 := c_mask x 1 1 (by decide) (by decide)
  generalize (x &&& (1 : Int32)) = k at h1 ⊢
  have a0 : (0 : Int32).toInt = 0 := by decide
  have a1 : (1 : Int32).toInt = 1 := by decide
  simp only [← Int32.toInt_inj, a0, a1]
  omega
theorem own_ef0_I (m : MethodId) (x0 : Int32) : entryFrame m #[(.int x0)] maxLocals = mkF m 0 #[.val (.int x0), .unset, .unset, .unset, .unset] [] := by first | (simp [entryFrame, mkF, argsToLocals, Value.category, maxLocals]; done) | rfl
theorem own_ef1_R (m : MethodId) (x0 : Addr) : entryFrame m #[(.ref x0)] 1 = mkF m 0 #[.val (.ref x0)] [] := by first | (simp [entryFrame, mkF, argsToLocals, Value.category]; done) | rfl
theorem own_d1_0 : decode prog_7_method_7_code 0 = .ok (.aload_n 0, 1) := by decide +kernel
theorem own_d1_1 : decode prog_7_method_7_code 1 = .ok (.getstatic 3, 3) := by decide +kernel
theorem own_d1_4 : decode prog_7_method_7_code 4 = .ok (.if_acmp .ne 9, 3) := by decide +kernel
theorem own_d1_7 : decode prog_7_method_7_code 7 = .ok (.getstatic 7, 3) := by decide +kernel
theorem own_d1_10 : decode prog_7_method_7_code 10 = .ok (.goto 6, 3) := by decide +kernel
theorem own_d1_16 : decode prog_7_method_7_code 16 = .ok (.areturn, 1) := by decide +kernel
theorem own_pn_Effect : plainName "com/example/open_verdict/openverdict/Effect" = true := by first | (simp [plainName, overriddenIn]; done) | decide +kernel
set_option maxRecDepth 65536 in
set_option maxHeartbeats 40000000 in
theorem own_r1_2 (l : Launch) (Z : State) (a0 : Array Value) (hw : ∀ d ∈ tables_1, d.before a0 Z = true) (ws : List Jvm.Cond) (wEffect_PERMIT : Addr) (wEffect_DENY : Addr) (wVerdict_PERMIT : Addr) (wVerdict_DENY : Addr) (wVerdict_INDETERMINATE_P : Addr) (wVerdict_INDETERMINATE_D : Addr) (h0 : Heap) (n0 : Nat) (Z0 : n0 ≤ h0.size) (F : own_W Z h0 wEffect_PERMIT wEffect_DENY wVerdict_PERMIT wVerdict_DENY wVerdict_INDETERMINATE_P wVerdict_INDETERMINATE_D)   :
    MetFree l (⟨"com/example/open_verdict/openverdict/Effect", "opposite", "()Lcom/example/open_verdict/openverdict/Effect;"⟩ : MethodName) (head1 (Jvm.Cond.code (⟨"com/example/open_verdict/openverdict/Effect", "opposite", "()Lcom/example/open_verdict/openverdict/Effect;"⟩ : MethodName) prog_7_method_7_code 1 (some (.object "com/example/open_verdict/openverdict/Effect")) :: ws) ({ frames := 0, cells := 0, slots := 0, locals := 0 } : Room)) (fun a U => a = #[(.ref wEffect_PERMIT)] ∧ Z.Warmed39 U.vm ∧ U.heap = h0) (fun _ _ _ _ _ => True) (fun _ U o U' => ∃ v L, o = .returned v ∧ own_Q (.ref wEffect_DENY) h0 n0 v U'.heap L ∧ FrameEnd U o U' L ({ frames := 0, cells := 0, slots := 0, locals := 0 } : Room).cells ({ frames := 0, cells := 0, slots := 0, locals := 0 } : Room).slots) := by
  obtain ⟨S_wEffect_PERMIT, E_wEffect_PERMIT, S_wEffect_DENY, E_wEffect_DENY, S_wVerdict_PERMIT, E_wVerdict_PERMIT, S_wVerdict_DENY, E_wVerdict_DENY, S_wVerdict_INDETERMINATE_P, E_wVerdict_INDETERMINATE_P, S_wVerdict_INDETERMINATE_D, E_wVerdict_INDETERMINATE_D, F_wEffect_DENY_ordinal, F_wEffect_PERMIT_ordinal, F_wEffect_PERMIT_verdict, F_wEffect_PERMIT_indeterminate, F_wEffect_DENY_verdict, F_wEffect_DENY_indeterminate, F_wVerdict_DENY_ordinal, F_wVerdict_PERMIT_ordinal, F_wVerdict_INDETERMINATE_D_ordinal, F_wVerdict_INDETERMINATE_P_ordinal, ne_wEffect_PERMIT_wEffect_DENY, ne_wVerdict_PERMIT_wVerdict_DENY, ne_wVerdict_PERMIT_wVerdict_INDETERMINATE_P, ne_wVerdict_PERMIT_wVerdict_INDETERMINATE_D, ne_wVerdict_DENY_wVerdict_INDETERMINATE_P, ne_wVerdict_DENY_wVerdict_INDETERMINATE_D, ne_wVerdict_INDETERMINATE_P_wVerdict_INDETERMINATE_D⟩ := id F
  refine MetFree.of_bodySF (plainFor_of_name own_pn_Effect) hisR ?_
  intro p e s m args below meth c s₁ Bd hml0 hP hK
  obtain ⟨rfl, hZ, hh⟩ := hP
  have hx := Bd.exec
  have hby := Bd.bytes
  have hml : c.maxLocals = 1 := hml0
  have hown : s.vm.findClass "com/example/open_verdict/openverdict/Effect" = some m.cls := findClass_of_methodNamed Bd.named
  have X0 : Stand p l e ({ frames := 0, cells := 0, slots := 0, locals := 0 } : Room) s m #[(.ref wEffect_PERMIT)] below meth c s₁ [] 0 0 := Stand.of_body Bd
  have e0 : s₁.heap = h0 := by rw [← hh, Bd.state]; rfl
  have N0 := Fr.nil n0
  have pre0 : ∀ t, Steps p.tables e below (s₁.setTop (mkF m 0 #[.val (.ref wEffect_PERMIT)] [])) t → Steps p.tables e below (s₁.setTop (entryFrame m #[(.ref wEffect_PERMIT)] 1)) t := fun t k => castTop (own_ef1_R m wEffect_PERMIT) k
  obtain ⟨T1, X1, e1, st1⟩ := getS2 X0 hx hZ hown (host := "") (Or.inl (hw _ (List.mem_of_getElem? (i := 8) rfl))) Via.refl e0 S_wEffect_PERMIT (g := (mkF m 1 #[.val (.ref wEffect_PERMIT)] [(.ref wEffect_PERMIT)])) rfl (hb hby own_d1_1)
  obtain ⟨T2, X2, e2, st2⟩ := getS2 X1 hx hZ hown (host := "") (Or.inl (hw _ (List.mem_of_getElem? (i := 9) rfl))) Via.refl e1 S_wEffect_DENY (g := (mkF m 7 #[.val (.ref wEffect_PERMIT)] [])) rfl (hb hby own_d1_7)
  obtain ⟨fs, hr, hrun, hended, hW, hsame⟩ := X2.leave (v := some (.ref wEffect_DENY)) (fun h => by rw [Bd.returns] at h; cases h)
  refine ⟨_, _, pre0 _ ?_, hrun, hended, _, _, rfl, ?_, ⟨_, rfl⟩, hW, hsame.mono (by decide) (by decide)⟩
  · show Steps p.tables e below (s₁.setTop (mkF m 0 #[.val (.ref wEffect_PERMIT)] [])) _
    refine XS.aloadN X0.here hx rfl (hb hby own_d1_0) rfl rfl ?_
    show Steps p.tables e below (s₁.setTop (mkF m 1 #[.val (.ref wEffect_PERMIT)] [(.ref wEffect_PERMIT)])) _
    refine st1 _ ?_
    show Steps p.tables e below (T1.setTop (mkF m 4 #[.val (.ref wEffect_PERMIT)] [(.ref wEffect_PERMIT), (.ref wEffect_PERMIT)])) _
    refine Jvm.RoadKit.acmp (g := (mkF m 4 #[.val (.ref wEffect_PERMIT)] [(.ref wEffect_PERMIT), (.ref wEffect_PERMIT)])) X1 hx rfl rfl rfl (pc0 := 4) (pc' := 7) (same := true) rfl (hb hby own_d1_4) rfl (decide_eq_true rfl) (by decide) (by decide) ?_
    show Steps p.tables e below (T1.setTop (mkF m 7 #[.val (.ref wEffect_PERMIT)] [])) _
    refine st2 _ ?_
    show Steps p.tables e below (T2.setTop (mkF m 10 #[.val (.ref wEffect_PERMIT)] [(.ref wEffect_DENY)])) _
    refine XS.goto X2.here hx rfl (pc0 := 10) (pc' := 16) rfl (hb hby own_d1_10) (by decide) (by decide) ?_
    show Steps p.tables e below (T2.setTop (mkF m 16 #[.val (.ref wEffect_PERMIT)] [(.ref wEffect_DENY)])) _
    jvm_step X2.here [X2.here.top, hx, (hb hby own_d1_16), X2.method', Bd.returns, Value.isRef, FieldType.isReference]
    first | (intro acts; rw [hr _ acts rfl rfl rfl]) | rw [hr _ _ rfl rfl rfl]
    exact Steps.refl _
  · exact ⟨rfl, N0, e2⟩
theorem own_pd0 : parseMethodDescriptor "()Lcom/example/open_verdict/openverdict/Effect;" = some ⟨[], some (.object "com/example/open_verdict/openverdict/Effect")⟩ := by decide +kernel
theorem own_d1_13 : decode prog_7_method_7_code 13 = .ok (.getstatic 3, 3) := by decide +kernel
set_option maxRecDepth 65536 in
set_option maxHeartbeats 40000000 in
theorem own_r1_3 (l : Launch) (Z : State) (a0 : Array Value) (hw : ∀ d ∈ tables_1, d.before a0 Z = true) (ws : List Jvm.Cond) (wEffect_PERMIT : Addr) (wEffect_DENY : Addr) (wVerdict_PERMIT : Addr) (wVerdict_DENY : Addr) (wVerdict_INDETERMINATE_P : Addr) (wVerdict_INDETERMINATE_D : Addr) (h0 : Heap) (n0 : Nat) (Z0 : n0 ≤ h0.size) (F : own_W Z h0 wEffect_PERMIT wEffect_DENY wVerdict_PERMIT wVerdict_DENY wVerdict_INDETERMINATE_P wVerdict_INDETERMINATE_D)   :
    MetFree l (⟨"com/example/open_verdict/openverdict/Effect", "opposite", "()Lcom/example/open_verdict/openverdict/Effect;"⟩ : MethodName) (head1 (Jvm.Cond.code (⟨"com/example/open_verdict/openverdict/Effect", "opposite", "()Lcom/example/open_verdict/openverdict/Effect;"⟩ : MethodName) prog_7_method_7_code 1 (some (.object "com/example/open_verdict/openverdict/Effect")) :: ws) ({ frames := 0, cells := 0, slots := 0, locals := 0 } : Room)) (fun a U => a = #[(.ref wEffect_DENY)] ∧ Z.Warmed39 U.vm ∧ U.heap = h0) (fun _ _ _ _ _ => True) (fun _ U o U' => ∃ v L, o = .returned v ∧ own_Q (.ref wEffect_PERMIT) h0 n0 v U'.heap L ∧ FrameEnd U o U' L ({ frames := 0, cells := 0, slots := 0, locals := 0 } : Room).cells ({ frames := 0, cells := 0, slots := 0, locals := 0 } : Room).slots) := by
  obtain ⟨S_wEffect_PERMIT, E_wEffect_PERMIT, S_wEffect_DENY, E_wEffect_DENY, S_wVerdict_PERMIT, E_wVerdict_PERMIT, S_wVerdict_DENY, E_wVerdict_DENY, S_wVerdict_INDETERMINATE_P, E_wVerdict_INDETERMINATE_P, S_wVerdict_INDETERMINATE_D, E_wVerdict_INDETERMINATE_D, F_wEffect_DENY_ordinal, F_wEffect_PERMIT_ordinal, F_wEffect_PERMIT_verdict, F_wEffect_PERMIT_indeterminate, F_wEffect_DENY_verdict, F_wEffect_DENY_indeterminate, F_wVerdict_DENY_ordinal, F_wVerdict_PERMIT_ordinal, F_wVerdict_INDETERMINATE_D_ordinal, F_wVerdict_INDETERMINATE_P_ordinal, ne_wEffect_PERMIT_wEffect_DENY, ne_wVerdict_PERMIT_wVerdict_DENY, ne_wVerdict_PERMIT_wVerdict_INDETERMINATE_P, ne_wVerdict_PERMIT_wVerdict_INDETERMINATE_D, ne_wVerdict_DENY_wVerdict_INDETERMINATE_P, ne_wVerdict_DENY_wVerdict_INDETERMINATE_D, ne_wVerdict_INDETERMINATE_P_wVerdict_INDETERMINATE_D⟩ := id F
  refine MetFree.of_bodySF (plainFor_of_name own_pn_Effect) hisR ?_
  intro p e s m args below meth c s₁ Bd hml0 hP hK
  obtain ⟨rfl, hZ, hh⟩ := hP
  have hx := Bd.exec
  have hby := Bd.bytes
  have hml : c.maxLocals = 1 := hml0
  have hown : s.vm.findClass "com/example/open_verdict/openverdict/Effect" = some m.cls := findClass_of_methodNamed Bd.named
  have X0 : Stand p l e ({ frames := 0, cells := 0, slots := 0, locals := 0 } : Room) s m #[(.ref wEffect_DENY)] below meth c s₁ [] 0 0 := Stand.of_body Bd
  have e0 : s₁.heap = h0 := by rw [← hh, Bd.state]; rfl
  have N0 := Fr.nil n0
  have pre0 : ∀ t, Steps p.tables e below (s₁.setTop (mkF m 0 #[.val (.ref wEffect_DENY)] [])) t → Steps p.tables e below (s₁.setTop (entryFrame m #[(.ref wEffect_DENY)] 1)) t := fun t k => castTop (own_ef1_R m wEffect_DENY) k
  obtain ⟨T1, X1, e1, st1⟩ := getS2 X0 hx hZ hown (host := "") (Or.inl (hw _ (List.mem_of_getElem? (i := 8) rfl))) Via.refl e0 S_wEffect_PERMIT (g := (mkF m 1 #[.val (.ref wEffect_DENY)] [(.ref wEffect_DENY)])) rfl (hb hby own_d1_1)
  obtain ⟨T2, X2, e2, st2⟩ := getS2 X1 hx hZ hown (host := "") (Or.inl (hw _ (List.mem_of_getElem? (i := 8) rfl))) Via.refl e1 S_wEffect_PERMIT (g := (mkF m 13 #[.val (.ref wEffect_DENY)] [])) rfl (hb hby own_d1_13)
  obtain ⟨fs, hr, hrun, hended, hW, hsame⟩ := X2.leave (v := some (.ref wEffect_PERMIT)) (fun h => by rw [Bd.returns] at h; cases h)
  refine ⟨_, _, pre0 _ ?_, hrun, hended, _, _, rfl, ?_, ⟨_, rfl⟩, hW, hsame.mono (by decide) (by decide)⟩
  · show Steps p.tables e below (s₁.setTop (mkF m 0 #[.val (.ref wEffect_DENY)] [])) _
    refine XS.aloadN X0.here hx rfl (hb hby own_d1_0) rfl rfl ?_
    show Steps p.tables e below (s₁.setTop (mkF m 1 #[.val (.ref wEffect_DENY)] [(.ref wEffect_DENY)])) _
    refine st1 _ ?_
    show Steps p.tables e below (T1.setTop (mkF m 4 #[.val (.ref wEffect_DENY)] [(.ref wEffect_PERMIT), (.ref wEffect_DENY)])) _
    refine Jvm.RoadKit.acmp (g := (mkF m 4 #[.val (.ref wEffect_DENY)] [(.ref wEffect_PERMIT), (.ref wEffect_DENY)])) X1 hx rfl rfl rfl (pc0 := 4) (pc' := 13) (same := false) rfl (hb hby own_d1_4) rfl (decide_eq_false fun q => (Ne.symm ne_wEffect_PERMIT_wEffect_DENY) (Value.ref.inj q)) (by decide) (by decide) ?_
    show Steps p.tables e below (T1.setTop (mkF m 13 #[.val (.ref wEffect_DENY)] [])) _
    refine st2 _ ?_
    show Steps p.tables e below (T2.setTop (mkF m 16 #[.val (.ref wEffect_DENY)] [(.ref wEffect_PERMIT)])) _
    jvm_step X2.here [X2.here.top, hx, (hb hby own_d1_16), X2.method', Bd.returns, Value.isRef, FieldType.isReference]
    first | (intro acts; rw [hr _ acts rfl rfl rfl]) | rw [hr _ _ rfl rfl rfl]
    exact Steps.refl _
  · exact ⟨rfl, N0, e2⟩
theorem own_ef2_R (m : MethodId) (x0 : Addr) : entryFrame m #[(.ref x0)] 1 = mkF m 0 #[.val (.ref x0)] [] := by first | (simp [entryFrame, mkF, argsToLocals, Value.category]; done) | rfl
theorem own_d2_0 : decode prog_7_method_5_code 0 = .ok (.aload_n 0, 1) := by decide +kernel
theorem own_d2_1 : decode prog_7_method_5_code 1 = .ok (.getfield 33, 3) := by decide +kernel
theorem own_d2_4 : decode prog_7_method_5_code 4 = .ok (.areturn, 1) := by decide +kernel
set_option maxRecDepth 65536 in
set_option maxHeartbeats 40000000 in
theorem own_r2_4 (l : Launch) (Z : State) (a0 : Array Value) (hw : ∀ d ∈ tables_1, d.before a0 Z = true) (ws : List Jvm.Cond) (wEffect_PERMIT : Addr) (wEffect_DENY : Addr) (wVerdict_PERMIT : Addr) (wVerdict_DENY : Addr) (wVerdict_INDETERMINATE_P : Addr) (wVerdict_INDETERMINATE_D : Addr) (h0 : Heap) (n0 : Nat) (Z0 : n0 ≤ h0.size) (F : own_W Z h0 wEffect_PERMIT wEffect_DENY wVerdict_PERMIT wVerdict_DENY wVerdict_INDETERMINATE_P wVerdict_INDETERMINATE_D)   :
    MetFree l (⟨"com/example/open_verdict/openverdict/Effect", "verdict", "()Lcom/example/open_verdict/openverdict/Verdict;"⟩ : MethodName) (head1 (Jvm.Cond.code (⟨"com/example/open_verdict/openverdict/Effect", "verdict", "()Lcom/example/open_verdict/openverdict/Verdict;"⟩ : MethodName) prog_7_method_5_code 1 (some (.object "com/example/open_verdict/openverdict/Verdict")) :: ws) ({ frames := 0, cells := 0, slots := 0, locals := 0 } : Room)) (fun a U => a = #[(.ref wEffect_PERMIT)] ∧ Z.Warmed39 U.vm ∧ U.heap = h0) (fun _ _ _ _ _ => True) (fun _ U o U' => ∃ v L, o = .returned v ∧ own_Q (.ref wVerdict_PERMIT) h0 n0 v U'.heap L ∧ FrameEnd U o U' L ({ frames := 0, cells := 0, slots := 0, locals := 0 } : Room).cells ({ frames := 0, cells := 0, slots := 0, locals := 0 } : Room).slots) := by
  obtain ⟨S_wEffect_PERMIT, E_wEffect_PERMIT, S_wEffect_DENY, E_wEffect_DENY, S_wVerdict_PERMIT, E_wVerdict_PERMIT, S_wVerdict_DENY, E_wVerdict_DENY, S_wVerdict_INDETERMINATE_P, E_wVerdict_INDETERMINATE_P, S_wVerdict_INDETERMINATE_D, E_wVerdict_INDETERMINATE_D, F_wEffect_DENY_ordinal, F_wEffect_PERMIT_ordinal, F_wEffect_PERMIT_verdict, F_wEffect_PERMIT_indeterminate, F_wEffect_DENY_verdict, F_wEffect_DENY_indeterminate, F_wVerdict_DENY_ordinal, F_wVerdict_PERMIT_ordinal, F_wVerdict_INDETERMINATE_D_ordinal, F_wVerdict_INDETERMINATE_P_ordinal, ne_wEffect_PERMIT_wEffect_DENY, ne_wVerdict_PERMIT_wVerdict_DENY, ne_wVerdict_PERMIT_wVerdict_INDETERMINATE_P, ne_wVerdict_PERMIT_wVerdict_INDETERMINATE_D, ne_wVerdict_DENY_wVerdict_INDETERMINATE_P, ne_wVerdict_DENY_wVerdict_INDETERMINATE_D, ne_wVerdict_INDETERMINATE_P_wVerdict_INDETERMINATE_D⟩ := id F
  refine MetFree.of_bodySF (plainFor_of_name own_pn_Effect) hisR ?_
  intro p e s m args below meth c s₁ Bd hml0 hP hK
  obtain ⟨rfl, hZ, hh⟩ := hP
  have hx := Bd.exec
  have hby := Bd.bytes
  have hml : c.maxLocals = 1 := hml0
  have hown : s.vm.findClass "com/example/open_verdict/openverdict/Effect" = some m.cls := findClass_of_methodNamed Bd.named
  have X0 : Stand p l e ({ frames := 0, cells := 0, slots := 0, locals := 0 } : Room) s m #[(.ref wEffect_PERMIT)] below meth c s₁ [] 0 0 := Stand.of_body Bd
  have e0 : s₁.heap = h0 := by rw [← hh, Bd.state]; rfl
  have N0 := Fr.nil n0
  have pre0 : ∀ t, Steps p.tables e below (s₁.setTop (mkF m 0 #[.val (.ref wEffect_PERMIT)] [])) t → Steps p.tables e below (s₁.setTop (entryFrame m #[(.ref wEffect_PERMIT)] 1)) t := fun t k => castTop (own_ef2_R m wEffect_PERMIT) k
  obtain ⟨T1, X1, e1, st1⟩ := getF X0 hx hZ hown (host := "") (Or.inl (hw _ (List.mem_of_getElem? (i := 16) rfl))) Via.refl e0 F_wEffect_PERMIT_verdict (g := (mkF m 1 #[.val (.ref wEffect_PERMIT)] [(.ref wEffect_PERMIT)])) rfl rfl (hb hby own_d2_1)
  obtain ⟨fs, hr, hrun, hended, hW, hsame⟩ := X1.leave (v := some (.ref wVerdict_PERMIT)) (fun h => by rw [Bd.returns] at h; cases h)
  refine ⟨_, _, pre0 _ ?_, hrun, hended, _, _, rfl, ?_, ⟨_, rfl⟩, hW, hsame.mono (by decide) (by decide)⟩
  · show Steps p.tables e below (s₁.setTop (mkF m 0 #[.val (.ref wEffect_PERMIT)] [])) _
    refine XS.aloadN X0.here hx rfl (hb hby own_d2_0) rfl rfl ?_
    show Steps p.tables e below (s₁.setTop (mkF m 1 #[.val (.ref wEffect_PERMIT)] [(.ref wEffect_PERMIT)])) _
    refine st1 _ ?_
    show Steps p.tables e below (T1.setTop (mkF m 4 #[.val (.ref wEffect_PERMIT)] [(.ref wVerdict_PERMIT)])) _
    jvm_step X1.here [X1.here.top, hx, (hb hby own_d2_4), X1.method', Bd.returns, Value.isRef, FieldType.isReference]
    first | (intro acts; rw [hr _ acts rfl rfl rfl]) | rw [hr _ _ rfl rfl rfl]
    exact Steps.refl _
  · exact ⟨rfl, N0, e1⟩
theorem own_pd1 : parseMethodDescriptor "()Lcom/example/open_verdict/openverdict/Verdict;" = some ⟨[], some (.object "com/example/open_verdict/openverdict/Verdict")⟩ := by decide +kernel
theorem own_ef3_R (m : MethodId) (x0 : Addr) : entryFrame m #[(.ref x0)] 1 = mkF m 0 #[.val (.ref x0)] [] := by first | (simp [entryFrame, mkF, argsToLocals, Value.category]; done) | rfl
theorem own_d3_0 : decode prog_7_method_6_code 0 = .ok (.aload_n 0, 1) := by decide +kernel
theorem own_d3_1 : decode prog_7_method_6_code 1 = .ok (.getfield 37, 3) := by decide +kernel
theorem own_d3_4 : decode prog_7_method_6_code 4 = .ok (.areturn, 1) := by decide +kernel
set_option maxRecDepth 65536 in
set_option maxHeartbeats 40000000 in
theorem own_r3_5 (l : Launch) (Z : State) (a0 : Array Value) (hw : ∀ d ∈ tables_1, d.before a0 Z = true) (ws : List Jvm.Cond) (wEffect_PERMIT : Addr) (wEffect_DENY : Addr) (wVerdict_PERMIT : Addr) (wVerdict_DENY : Addr) (wVerdict_INDETERMINATE_P : Addr) (wVerdict_INDETERMINATE_D : Addr) (h0 : Heap) (n0 : Nat) (Z0 : n0 ≤ h0.size) (F : own_W Z h0 wEffect_PERMIT wEffect_DENY wVerdict_PERMIT wVerdict_DENY wVerdict_INDETERMINATE_P wVerdict_INDETERMINATE_D)   :
    MetFree l (⟨"com/example/open_verdict/openverdict/Effect", "indeterminate", "()Lcom/example/open_verdict/openverdict/Verdict;"⟩ : MethodName) (head1 (Jvm.Cond.code (⟨"com/example/open_verdict/openverdict/Effect", "indeterminate", "()Lcom/example/open_verdict/openverdict/Verdict;"⟩ : MethodName) prog_7_method_6_code 1 (some (.object "com/example/open_verdict/openverdict/Verdict")) :: ws) ({ frames := 0, cells := 0, slots := 0, locals := 0 } : Room)) (fun a U => a = #[(.ref wEffect_PERMIT)] ∧ Z.Warmed39 U.vm ∧ U.heap = h0) (fun _ _ _ _ _ => True) (fun _ U o U' => ∃ v L, o = .returned v ∧ own_Q (.ref wVerdict_INDETERMINATE_P) h0 n0 v U'.heap L ∧ FrameEnd U o U' L ({ frames := 0, cells := 0, slots := 0, locals := 0 } : Room).cells ({ frames := 0, cells := 0, slots := 0, locals := 0 } : Room).slots) := by
  obtain ⟨S_wEffect_PERMIT, E_wEffect_PERMIT, S_wEffect_DENY, E_wEffect_DENY, S_wVerdict_PERMIT, E_wVerdict_PERMIT, S_wVerdict_DENY, E_wVerdict_DENY, S_wVerdict_INDETERMINATE_P, E_wVerdict_INDETERMINATE_P, S_wVerdict_INDETERMINATE_D, E_wVerdict_INDETERMINATE_D, F_wEffect_DENY_ordinal, F_wEffect_PERMIT_ordinal, F_wEffect_PERMIT_verdict, F_wEffect_PERMIT_indeterminate, F_wEffect_DENY_verdict, F_wEffect_DENY_indeterminate, F_wVerdict_DENY_ordinal, F_wVerdict_PERMIT_ordinal, F_wVerdict_INDETERMINATE_D_ordinal, F_wVerdict_INDETERMINATE_P_ordinal, ne_wEffect_PERMIT_wEffect_DENY, ne_wVerdict_PERMIT_wVerdict_DENY, ne_wVerdict_PERMIT_wVerdict_INDETERMINATE_P, ne_wVerdict_PERMIT_wVerdict_INDETERMINATE_D, ne_wVerdict_DENY_wVerdict_INDETERMINATE_P, ne_wVerdict_DENY_wVerdict_INDETERMINATE_D, ne_wVerdict_INDETERMINATE_P_wVerdict_INDETERMINATE_D⟩ := id F
  refine MetFree.of_bodySF (plainFor_of_name own_pn_Effect) hisR ?_
  intro p e s m args below meth c s₁ Bd hml0 hP hK
  obtain ⟨rfl, hZ, hh⟩ := hP
  have hx := Bd.exec
  have hby := Bd.bytes
  have hml : c.maxLocals = 1 := hml0
  have hown : s.vm.findClass "com/example/open_verdict/openverdict/Effect" = some m.cls := findClass_of_methodNamed Bd.named
  have X0 : Stand p l e ({ frames := 0, cells := 0, slots := 0, locals := 0 } : Room) s m #[(.ref wEffect_PERMIT)] below meth c s₁ [] 0 0 := Stand.of_body Bd
  have e0 : s₁.heap = h0 := by rw [← hh, Bd.state]; rfl
  have N0 := Fr.nil n0
  have pre0 : ∀ t, Steps p.tables e below (s₁.setTop (mkF m 0 #[.val (.ref wEffect_PERMIT)] [])) t → Steps p.tables e below (s₁.setTop (entryFrame m #[(.ref wEffect_PERMIT)] 1)) t := fun t k => castTop (own_ef3_R m wEffect_PERMIT) k
  obtain ⟨T1, X1, e1, st1⟩ := getF X0 hx hZ hown (host := "") (Or.inl (hw _ (List.mem_of_getElem? (i := 28) rfl))) Via.refl e0 F_wEffect_PERMIT_indeterminate (g := (mkF m 1 #[.val (.ref wEffect_PERMIT)] [(.ref wEffect_PERMIT)])) rfl rfl (hb hby own_d3_1)
  obtain ⟨fs, hr, hrun, hended, hW, hsame⟩ := X1.leave (v := some (.ref wVerdict_INDETERMINATE_P)) (fun h => by rw [Bd.returns] at h; cases h)
  refine ⟨_, _, pre0 _ ?_, hrun, hended, _, _, rfl, ?_, ⟨_, rfl⟩, hW, hsame.mono (by decide) (by decide)⟩
  · show Steps p.tables e below (s₁.setTop (mkF m 0 #[.val (.ref wEffect_PERMIT)] [])) _
    refine XS.aloadN X0.here hx rfl (hb hby own_d3_0) rfl rfl ?_
    show Steps p.tables e below (s₁.setTop (mkF m 1 #[.val (.ref wEffect_PERMIT)] [(.ref wEffect_PERMIT)])) _
    refine st1 _ ?_
    show Steps p.tables e below (T1.setTop (mkF m 4 #[.val (.ref wEffect_PERMIT)] [(.ref wVerdict_INDETERMINATE_P)])) _
    jvm_step X1.here [X1.here.top, hx, (hb hby own_d3_4), X1.method', Bd.returns, Value.isRef, FieldType.isReference]
    first | (intro acts; rw [hr _ acts rfl rfl rfl]) | rw [hr _ _ rfl rfl rfl]
    exact Steps.refl _
  · exact ⟨rfl, N0, e1⟩
set_option maxRecDepth 65536 in
set_option maxHeartbeats 40000000 in
theorem own_r2_6 (l : Launch) (Z : State) (a0 : Array Value) (hw : ∀ d ∈ tables_1, d.before a0 Z = true) (ws : List Jvm.Cond) (wEffect_PERMIT : Addr) (wEffect_DENY : Addr) (wVerdict_PERMIT : Addr) (wVerdict_DENY : Addr) (wVerdict_INDETERMINATE_P : Addr) (wVerdict_INDETERMINATE_D : Addr) (h0 : Heap) (n0 : Nat) (Z0 : n0 ≤ h0.size) (F : own_W Z h0 wEffect_PERMIT wEffect_DENY wVerdict_PERMIT wVerdict_DENY wVerdict_INDETERMINATE_P wVerdict_INDETERMINATE_D)   :
    MetFree l (⟨"com/example/open_verdict/openverdict/Effect", "verdict", "()Lcom/example/open_verdict/openverdict/Verdict;"⟩ : MethodName) (head1 (Jvm.Cond.code (⟨"com/example/open_verdict/openverdict/Effect", "verdict", "()Lcom/example/open_verdict/openverdict/Verdict;"⟩ : MethodName) prog_7_method_5_code 1 (some (.object "com/example/open_verdict/openverdict/Verdict")) :: ws) ({ frames := 0, cells := 0, slots := 0, locals := 0 } : Room)) (fun a U => a = #[(.ref wEffect_DENY)] ∧ Z.Warmed39 U.vm ∧ U.heap = h0) (fun _ _ _ _ _ => True) (fun _ U o U' => ∃ v L, o = .returned v ∧ own_Q (.ref wVerdict_DENY) h0 n0 v U'.heap L ∧ FrameEnd U o U' L ({ frames := 0, cells := 0, slots := 0, locals := 0 } : Room).cells ({ frames := 0, cells := 0, slots := 0, locals := 0 } : Room).slots) := by
  obtain ⟨S_wEffect_PERMIT, E_wEffect_PERMIT, S_wEffect_DENY, E_wEffect_DENY, S_wVerdict_PERMIT, E_wVerdict_PERMIT, S_wVerdict_DENY, E_wVerdict_DENY, S_wVerdict_INDETERMINATE_P, E_wVerdict_INDETERMINATE_P, S_wVerdict_INDETERMINATE_D, E_wVerdict_INDETERMINATE_D, F_wEffect_DENY_ordinal, F_wEffect_PERMIT_ordinal, F_wEffect_PERMIT_verdict, F_wEffect_PERMIT_indeterminate, F_wEffect_DENY_verdict, F_wEffect_DENY_indeterminate, F_wVerdict_DENY_ordinal, F_wVerdict_PERMIT_ordinal, F_wVerdict_INDETERMINATE_D_ordinal, F_wVerdict_INDETERMINATE_P_ordinal, ne_wEffect_PERMIT_wEffect_DENY, ne_wVerdict_PERMIT_wVerdict_DENY, ne_wVerdict_PERMIT_wVerdict_INDETERMINATE_P, ne_wVerdict_PERMIT_wVerdict_INDETERMINATE_D, ne_wVerdict_DENY_wVerdict_INDETERMINATE_P, ne_wVerdict_DENY_wVerdict_INDETERMINATE_D, ne_wVerdict_INDETERMINATE_P_wVerdict_INDETERMINATE_D⟩ := id F
  refine MetFree.of_bodySF (plainFor_of_name own_pn_Effect) hisR ?_
  intro p e s m args below meth c s₁ Bd hml0 hP hK
  obtain ⟨rfl, hZ, hh⟩ := hP
  have hx := Bd.exec
  have hby := Bd.bytes
  have hml : c.maxLocals = 1 := hml0
  have hown : s.vm.findClass "com/example/open_verdict/openverdict/Effect" = some m.cls := findClass_of_methodNamed Bd.named
  have X0 : Stand p l e ({ frames := 0, cells := 0, slots := 0, locals := 0 } : Room) s m #[(.ref wEffect_DENY)] below meth c s₁ [] 0 0 := Stand.of_body Bd
  have e0 : s₁.heap = h0 := by rw [← hh, Bd.state]; rfl
  have N0 := Fr.nil n0
  have pre0 : ∀ t, Steps p.tables e below (s₁.setTop (mkF m 0 #[.val (.ref wEffect_DENY)] [])) t → Steps p.tables e below (s₁.setTop (entryFrame m #[(.ref wEffect_DENY)] 1)) t := fun t k => castTop (own_ef2_R m wEffect_DENY) k
  obtain ⟨T1, X1, e1, st1⟩ := getF X0 hx hZ hown (host := "") (Or.inl (hw _ (List.mem_of_getElem? (i := 16) rfl))) Via.refl e0 F_wEffect_DENY_verdict (g := (mkF m 1 #[.val (.ref wEffect_DENY)] [(.ref wEffect_DENY)])) rfl rfl (hb hby own_d2_1)
  obtain ⟨fs, hr, hrun, hended, hW, hsame⟩ := X1.leave (v := some (.ref wVerdict_DENY)) (fun h => by rw [Bd.returns] at h; cases h)
  refine ⟨_, _, pre0 _ ?_, hrun, hended, _, _, rfl, ?_, ⟨_, rfl⟩, hW, hsame.mono (by decide) (by decide)⟩
  · show Steps p.tables e below (s₁.setTop (mkF m 0 #[.val (.ref wEffect_DENY)] [])) _
    refine XS.aloadN X0.here hx rfl (hb hby own_d2_0) rfl rfl ?_
    show Steps p.tables e below (s₁.setTop (mkF m 1 #[.val (.ref wEffect_DENY)] [(.ref wEffect_DENY)])) _
    refine st1 _ ?_
    show Steps p.tables e below (T1.setTop (mkF m 4 #[.val (.ref wEffect_DENY)] [(.ref wVerdict_DENY)])) _
    jvm_step X1.here [X1.here.top, hx, (hb hby own_d2_4), X1.method', Bd.returns, Value.isRef, FieldType.isReference]
    first | (intro acts; rw [hr _ acts rfl rfl rfl]) | rw [hr _ _ rfl rfl rfl]
    exact Steps.refl _
  · exact ⟨rfl, N0, e1⟩
set_option maxRecDepth 65536 in
set_option maxHeartbeats 40000000 in
theorem own_r3_7 (l : Launch) (Z : State) (a0 : Array Value) (hw : ∀ d ∈ tables_1, d.before a0 Z = true) (ws : List Jvm.Cond) (wEffect_PERMIT : Addr) (wEffect_DENY : Addr) (wVerdict_PERMIT : Addr) (wVerdict_DENY : Addr) (wVerdict_INDETERMINATE_P : Addr) (wVerdict_INDETERMINATE_D : Addr) (h0 : Heap) (n0 : Nat) (Z0 : n0 ≤ h0.size) (F : own_W Z h0 wEffect_PERMIT wEffect_DENY wVerdict_PERMIT wVerdict_DENY wVerdict_INDETERMINATE_P wVerdict_INDETERMINATE_D)   :
    MetFree l (⟨"com/example/open_verdict/openverdict/Effect", "indeterminate", "()Lcom/example/open_verdict/openverdict/Verdict;"⟩ : MethodName) (head1 (Jvm.Cond.code (⟨"com/example/open_verdict/openverdict/Effect", "indeterminate", "()Lcom/example/open_verdict/openverdict/Verdict;"⟩ : MethodName) prog_7_method_6_code 1 (some (.object "com/example/open_verdict/openverdict/Verdict")) :: ws) ({ frames := 0, cells := 0, slots := 0, locals := 0 } : Room)) (fun a U => a = #[(.ref wEffect_DENY)] ∧ Z.Warmed39 U.vm ∧ U.heap = h0) (fun _ _ _ _ _ => True) (fun _ U o U' => ∃ v L, o = .returned v ∧ own_Q (.ref wVerdict_INDETERMINATE_D) h0 n0 v U'.heap L ∧ FrameEnd U o U' L ({ frames := 0, cells := 0, slots := 0, locals := 0 } : Room).cells ({ frames := 0, cells := 0, slots := 0, locals := 0 } : Room).slots) := by
  obtain ⟨S_wEffect_PERMIT, E_wEffect_PERMIT, S_wEffect_DENY, E_wEffect_DENY, S_wVerdict_PERMIT, E_wVerdict_PERMIT, S_wVerdict_DENY, E_wVerdict_DENY, S_wVerdict_INDETERMINATE_P, E_wVerdict_INDETERMINATE_P, S_wVerdict_INDETERMINATE_D, E_wVerdict_INDETERMINATE_D, F_wEffect_DENY_ordinal, F_wEffect_PERMIT_ordinal, F_wEffect_PERMIT_verdict, F_wEffect_PERMIT_indeterminate, F_wEffect_DENY_verdict, F_wEffect_DENY_indeterminate, F_wVerdict_DENY_ordinal, F_wVerdict_PERMIT_ordinal, F_wVerdict_INDETERMINATE_D_ordinal, F_wVerdict_INDETERMINATE_P_ordinal, ne_wEffect_PERMIT_wEffect_DENY, ne_wVerdict_PERMIT_wVerdict_DENY, ne_wVerdict_PERMIT_wVerdict_INDETERMINATE_P, ne_wVerdict_PERMIT_wVerdict_INDETERMINATE_D, ne_wVerdict_DENY_wVerdict_INDETERMINATE_P, ne_wVerdict_DENY_wVerdict_INDETERMINATE_D, ne_wVerdict_INDETERMINATE_P_wVerdict_INDETERMINATE_D⟩ := id F
  refine MetFree.of_bodySF (plainFor_of_name own_pn_Effect) hisR ?_
  intro p e s m args below meth c s₁ Bd hml0 hP hK
  obtain ⟨rfl, hZ, hh⟩ := hP
  have hx := Bd.exec
  have hby := Bd.bytes
  have hml : c.maxLocals = 1 := hml0
  have hown : s.vm.findClass "com/example/open_verdict/openverdict/Effect" = some m.cls := findClass_of_methodNamed Bd.named
  have X0 : Stand p l e ({ frames := 0, cells := 0, slots := 0, locals := 0 } : Room) s m #[(.ref wEffect_DENY)] below meth c s₁ [] 0 0 := Stand.of_body Bd
  have e0 : s₁.heap = h0 := by rw [← hh, Bd.state]; rfl
  have N0 := Fr.nil n0
  have pre0 : ∀ t, Steps p.tables e below (s₁.setTop (mkF m 0 #[.val (.ref wEffect_DENY)] [])) t → Steps p.tables e below (s₁.setTop (entryFrame m #[(.ref wEffect_DENY)] 1)) t := fun t k => castTop (own_ef3_R m wEffect_DENY) k
  obtain ⟨T1, X1, e1, st1⟩ := getF X0 hx hZ hown (host := "") (Or.inl (hw _ (List.mem_of_getElem? (i := 28) rfl))) Via.refl e0 F_wEffect_DENY_indeterminate (g := (mkF m 1 #[.val (.ref wEffect_DENY)] [(.ref wEffect_DENY)])) rfl rfl (hb hby own_d3_1)
  obtain ⟨fs, hr, hrun, hended, hW, hsame⟩ := X1.leave (v := some (.ref wVerdict_INDETERMINATE_D)) (fun h => by rw [Bd.returns] at h; cases h)
  refine ⟨_, _, pre0 _ ?_, hrun, hended, _, _, rfl, ?_, ⟨_, rfl⟩, hW, hsame.mono (by decide) (by decide)⟩
  · show Steps p.tables e below (s₁.setTop (mkF m 0 #[.val (.ref wEffect_DENY)] [])) _
    refine XS.aloadN X0.here hx rfl (hb hby own_d3_0) rfl rfl ?_
    show Steps p.tables e below (s₁.setTop (mkF m 1 #[.val (.ref wEffect_DENY)] [(.ref wEffect_DENY)])) _
    refine st1 _ ?_
    show Steps p.tables e below (T1.setTop (mkF m 4 #[.val (.ref wEffect_DENY)] [(.ref wVerdict_INDETERMINATE_D)])) _
    jvm_step X1.here [X1.here.top, hx, (hb hby own_d3_4), X1.method', Bd.returns, Value.isRef, FieldType.isReference]
    first | (intro acts; rw [hr _ acts rfl rfl rfl]) | rw [hr _ _ rfl rfl rfl]
    exact Steps.refl _
  · exact ⟨rfl, N0, e1⟩
theorem own_pn_EffectOppositePinLaw : plainName "com/example/open_verdict/openverdict/EffectOppositePinLaw" = true := by first | (simp [plainName, overriddenIn]; done) | decide +kernel
set_option maxRecDepth 65536 in
set_option maxHeartbeats 40000000 in
theorem own_r0_a0 (l : Launch) (Z : State) (a0 : Array Value) (hw : ∀ d ∈ tables_1, d.before a0 Z = true) (ws : List Jvm.Cond) (wEffect_PERMIT : Addr) (wEffect_DENY : Addr) (wVerdict_PERMIT : Addr) (wVerdict_DENY : Addr) (wVerdict_INDETERMINATE_P : Addr) (wVerdict_INDETERMINATE_D : Addr) (h0 : Heap) (n0 : Nat) (Z0 : n0 ≤ h0.size) (F : own_W Z h0 wEffect_PERMIT wEffect_DENY wVerdict_PERMIT wVerdict_DENY wVerdict_INDETERMINATE_P wVerdict_INDETERMINATE_D) (i0 : Int32) (ha : (i0 &&& (1 : Int32)) = (0 : Int32)) :
    MetFree l x (head1 (Jvm.Cond.code x code maxLocals ret :: ws) room_1) (fun a U => a = #[(.int i0)] ∧ Z.Warmed39 U.vm ∧ U.heap = h0) (fun _ _ _ _ _ => True) (fun _ U o U' => ∃ v L, o = .returned v ∧ own_Q (.int (1 : Int32)) h0 n0 v U'.heap L ∧ FrameEnd U o U' L room_1.cells room_1.slots) := by
  obtain ⟨S_wEffect_PERMIT, E_wEffect_PERMIT, S_wEffect_DENY, E_wEffect_DENY, S_wVerdict_PERMIT, E_wVerdict_PERMIT, S_wVerdict_DENY, E_wVerdict_DENY, S_wVerdict_INDETERMINATE_P, E_wVerdict_INDETERMINATE_P, S_wVerdict_INDETERMINATE_D, E_wVerdict_INDETERMINATE_D, F_wEffect_DENY_ordinal, F_wEffect_PERMIT_ordinal, F_wEffect_PERMIT_verdict, F_wEffect_PERMIT_indeterminate, F_wEffect_DENY_verdict, F_wEffect_DENY_indeterminate, F_wVerdict_DENY_ordinal, F_wVerdict_PERMIT_ordinal, F_wVerdict_INDETERMINATE_D_ordinal, F_wVerdict_INDETERMINATE_P_ordinal, ne_wEffect_PERMIT_wEffect_DENY, ne_wVerdict_PERMIT_wVerdict_DENY, ne_wVerdict_PERMIT_wVerdict_INDETERMINATE_P, ne_wVerdict_PERMIT_wVerdict_INDETERMINATE_D, ne_wVerdict_DENY_wVerdict_INDETERMINATE_P, ne_wVerdict_DENY_wVerdict_INDETERMINATE_D, ne_wVerdict_INDETERMINATE_P_wVerdict_INDETERMINATE_D⟩ := id F
  refine MetFree.of_bodySF (plainFor_of_name own_pn_EffectOppositePinLaw) hisR ?_
  intro p e s m args below meth c s₁ Bd hml0 hP hK
  obtain ⟨rfl, hZ, hh⟩ := hP
  have hx := Bd.exec
  have hby := Bd.bytes
  have hml : c.maxLocals = 5 := hml0
  have hown : s.vm.findClass "com/example/open_verdict/openverdict/EffectOppositePinLaw" = some m.cls := findClass_of_methodNamed Bd.named
  have X0 : Stand p l e room_1 s m #[(.int i0)] below meth c s₁ [] 0 0 := Stand.of_body Bd
  have e0 : s₁.heap = h0 := by rw [← hh, Bd.state]; rfl
  have N0 := Fr.nil n0
  have pre0 : ∀ t, Steps p.tables e below (s₁.setTop (mkF m 0 #[.val (.int i0), .unset, .unset, .unset, .unset] [])) t → Steps p.tables e below (s₁.setTop (entryFrame m #[(.int i0)] maxLocals)) t := fun t k => castTop (own_ef0_I m i0) k
  obtain ⟨T1, X1, e1, st1⟩ := getS2 X0 hx hZ hown (host := "") (Or.inl (hw _ (List.mem_of_getElem? (i := 0) rfl))) Via.refl e0 S_wEffect_PERMIT (g := (mkF m 6 #[.val (.int i0), .unset, .unset, .unset, .unset] [])) rfl (hb hby at_6)
  obtain ⟨cq2, kq2, q2a, q2b, q2c⟩ := isOf hZ e1 E_wEffect_PERMIT
  obtain ⟨_, _, ⟨T2, L2, k2, n2⟩, -, X2, ⟨Lc2, hQ2, l2, y2, z2⟩, st2⟩ := X1.virtualBack hx (y := (⟨"com/example/open_verdict/openverdict/Effect", "opposite", "()Lcom/example/open_verdict/openverdict/Effect;"⟩ : MethodName)) (z := (⟨"com/example/open_verdict/openverdict/Effect", "opposite", "()Lcom/example/open_verdict/openverdict/Effect;"⟩ : MethodName)) hown (mvT hZ (hw _ (List.mem_of_getElem? (i := 3) rfl))) (mvT hZ (hw _ (List.mem_of_getElem? (i := 4) rfl))) (notFace_of_selects (args := #[]) (mvT hZ (hw _ (List.mem_of_getElem? (i := 6) rfl)))) (mvT hZ (hw _ (List.mem_of_getElem? (i := 6) rfl))) (mvT hZ (hw _ (List.mem_of_getElem? (i := 5) rfl))) (by decide) (backOf (W := 0) (own_r1_2 l Z a0 hw [] wEffect_PERMIT wEffect_DENY wVerdict_PERMIT wVerdict_DENY wVerdict_INDETERMINATE_P wVerdict_INDETERMINATE_D h0 n0 Z0 F ) hZ (hw _ (List.mem_of_getElem? (i := 7) rfl)) (hw _ (List.mem_of_getElem? (i := 1) rfl)) (by decide) (by decide)) q2a q2c (g := (mkF m 17 #[.val (.int i0), .val (.ref wEffect_PERMIT), .unset, .unset, .unset] [(.ref wEffect_PERMIT)])) rfl (by rw [hml]; rfl) (Steps.refl _) (argsL := []) (rest := []) (lenOf own_pd0 rfl) rfl (by show 2 * 0 + _ ≤ _; exact Nat.le_of_eq rfl) (hb hby at_17) (fun _ _ => ⟨rfl, e1, (by decide : 0 + 0 ≤ _), (by decide : 0 + 0 ≤ _)⟩)
  dsimp only [Pt.U, Pt.locs, Pt.cells, Pt.slots] at X2 l2 y2 z2 st2 hQ2
  subst l2 y2 z2
  obtain ⟨rfl, N2q, e2⟩ := hQ2
  have N2 := Fr.app N0 N2q
  obtain ⟨cq3, kq3, q3a, q3b, q3c⟩ := isOf hZ e2 E_wEffect_DENY
  obtain ⟨_, _, ⟨T3, L3, k3, n3⟩, -, X3, ⟨Lc3, hQ3, l3, y3, z3⟩, st3⟩ := X2.virtualBack hx (y := (⟨"com/example/open_verdict/openverdict/Effect", "opposite", "()Lcom/example/open_verdict/openverdict/Effect;"⟩ : MethodName)) (z := (⟨"com/example/open_verdict/openverdict/Effect", "opposite", "()Lcom/example/open_verdict/openverdict/Effect;"⟩ : MethodName)) hown (mvT hZ (hw _ (List.mem_of_getElem? (i := 3) rfl))) (mvT hZ (hw _ (List.mem_of_getElem? (i := 4) rfl))) (notFace_of_selects (args := #[]) (mvT hZ (hw _ (List.mem_of_getElem? (i := 6) rfl)))) (mvT hZ (hw _ (List.mem_of_getElem? (i := 6) rfl))) (mvT hZ (hw _ (List.mem_of_getElem? (i := 5) rfl))) (by decide) (backOf (W := 0) (own_r1_3 l Z a0 hw [] wEffect_PERMIT wEffect_DENY wVerdict_PERMIT wVerdict_DENY wVerdict_INDETERMINATE_P wVerdict_INDETERMINATE_D h0 n0 Z0 F ) hZ (hw _ (List.mem_of_getElem? (i := 7) rfl)) (hw _ (List.mem_of_getElem? (i := 1) rfl)) (by decide) (by decide)) q3a q3c (g := (mkF m 33 #[.val (.int i0), .val (.ref wEffect_PERMIT), .val (.ref wEffect_DENY), .unset, .unset] [(.ref wEffect_DENY)])) rfl (by rw [hml]; rfl) (Steps.refl _) (argsL := []) (rest := []) (lenOf own_pd0 rfl) rfl (by show 2 * 0 + _ ≤ _; exact Nat.le_of_eq rfl) (hb hby at_33) (fun _ _ => ⟨rfl, e2, (by decide : 0 + 0 ≤ _), (by decide : 0 + 0 ≤ _)⟩)
  dsimp only [Pt.U, Pt.locs, Pt.cells, Pt.slots] at X3 l3 y3 z3 st3 hQ3
  subst l3 y3 z3
  obtain ⟨rfl, N3q, e3⟩ := hQ3
  have N3 := Fr.app N2 N3q
  obtain ⟨cq4, kq4, q4a, q4b, q4c⟩ := isOf hZ e3 E_wEffect_PERMIT
  obtain ⟨_, _, ⟨T4, L4, k4, n4⟩, -, X4, ⟨Lc4, hQ4, l4, y4, z4⟩, st4⟩ := X3.virtualBack hx (y := (⟨"com/example/open_verdict/openverdict/Effect", "verdict", "()Lcom/example/open_verdict/openverdict/Verdict;"⟩ : MethodName)) (z := (⟨"com/example/open_verdict/openverdict/Effect", "verdict", "()Lcom/example/open_verdict/openverdict/Verdict;"⟩ : MethodName)) hown (mvT hZ (hw _ (List.mem_of_getElem? (i := 11) rfl))) (mvT hZ (hw _ (List.mem_of_getElem? (i := 12) rfl))) (notFace_of_selects (args := #[]) (mvT hZ (hw _ (List.mem_of_getElem? (i := 14) rfl)))) (mvT hZ (hw _ (List.mem_of_getElem? (i := 14) rfl))) (mvT hZ (hw _ (List.mem_of_getElem? (i := 13) rfl))) (by decide) (backOf (W := 0) (own_r2_4 l Z a0 hw [] wEffect_PERMIT wEffect_DENY wVerdict_PERMIT wVerdict_DENY wVerdict_INDETERMINATE_P wVerdict_INDETERMINATE_D h0 n0 Z0 F ) hZ (hw _ (List.mem_of_getElem? (i := 15) rfl)) (hw _ (List.mem_of_getElem? (i := 1) rfl)) (by decide) (by decide)) q4a q4c (g := (mkF m 43 #[.val (.int i0), .val (.ref wEffect_PERMIT), .val (.ref wEffect_DENY), .unset, .unset] [(.ref wEffect_PERMIT)])) rfl (by rw [hml]; rfl) (Steps.refl _) (argsL := []) (rest := []) (lenOf own_pd1 rfl) rfl (by show 2 * 0 + _ ≤ _; exact Nat.le_of_eq rfl) (hb hby at_43) (fun _ _ => ⟨rfl, e3, (by decide : 0 + 0 ≤ _), (by decide : 0 + 0 ≤ _)⟩)
  dsimp only [Pt.U, Pt.locs, Pt.cells, Pt.slots] at X4 l4 y4 z4 st4 hQ4
  subst l4 y4 z4
  obtain ⟨rfl, N4q, e4⟩ := hQ4
  have N4 := Fr.app N3 N4q
  obtain ⟨T5, X5, e5, st5⟩ := getS2 X4 hx hZ hown (host := "") (Or.inl (hw _ (List.mem_of_getElem? (i := 20) rfl))) Via.refl e4 S_wVerdict_PERMIT (g := (mkF m 46 #[.val (.int i0), .val (.ref wEffect_PERMIT), .val (.ref wEffect_DENY), .unset, .unset] [(.ref wVerdict_PERMIT)])) rfl (hb hby at_46)
  obtain ⟨T6, X6, e6, st6⟩ := getS2 X5 hx hZ hown (host := "") (Or.inl (hw _ (List.mem_of_getElem? (i := 21) rfl))) Via.refl e5 S_wVerdict_DENY (g := (mkF m 52 #[.val (.int i0), .val (.ref wEffect_PERMIT), .val (.ref wEffect_DENY), .unset, .unset] [])) rfl (hb hby at_52)
  obtain ⟨cq7, kq7, q7a, q7b, q7c⟩ := isOf hZ e6 E_wEffect_PERMIT
  obtain ⟨_, _, ⟨T7, L7, k7, n7⟩, -, X7, ⟨Lc7, hQ7, l7, y7, z7⟩, st7⟩ := X6.virtualBack hx (y := (⟨"com/example/open_verdict/openverdict/Effect", "indeterminate", "()Lcom/example/open_verdict/openverdict/Verdict;"⟩ : MethodName)) (z := (⟨"com/example/open_verdict/openverdict/Effect", "indeterminate", "()Lcom/example/open_verdict/openverdict/Verdict;"⟩ : MethodName)) hown (mvT hZ (hw _ (List.mem_of_getElem? (i := 23) rfl))) (mvT hZ (hw _ (List.mem_of_getElem? (i := 24) rfl))) (notFace_of_selects (args := #[]) (mvT hZ (hw _ (List.mem_of_getElem? (i := 26) rfl)))) (mvT hZ (hw _ (List.mem_of_getElem? (i := 26) rfl))) (mvT hZ (hw _ (List.mem_of_getElem? (i := 25) rfl))) (by decide) (backOf (W := 0) (own_r3_5 l Z a0 hw [] wEffect_PERMIT wEffect_DENY wVerdict_PERMIT wVerdict_DENY wVerdict_INDETERMINATE_P wVerdict_INDETERMINATE_D h0 n0 Z0 F ) hZ (hw _ (List.mem_of_getElem? (i := 27) rfl)) (hw _ (List.mem_of_getElem? (i := 1) rfl)) (by decide) (by decide)) q7a q7c (g := (mkF m 63 #[.val (.int i0), .val (.ref wEffect_PERMIT), .val (.ref wEffect_DENY), .val (.ref wVerdict_DENY), .unset] [(.ref wEffect_PERMIT)])) rfl (by rw [hml]; rfl) (Steps.refl _) (argsL := []) (rest := []) (lenOf own_pd1 rfl) rfl (by show 2 * 0 + _ ≤ _; exact Nat.le_of_eq rfl) (hb hby at_63) (fun _ _ => ⟨rfl, e6, (by decide : 0 + 0 ≤ _), (by decide : 0 + 0 ≤ _)⟩)
  dsimp only [Pt.U, Pt.locs, Pt.cells, Pt.slots] at X7 l7 y7 z7 st7 hQ7
  subst l7 y7 z7
  obtain ⟨rfl, N7q, e7⟩ := hQ7
  have N7 := Fr.app N4 N7q
  obtain ⟨T8, X8, e8, st8⟩ := getS2 X7 hx hZ hown (host := "") (Or.inl (hw _ (List.mem_of_getElem? (i := 31) rfl))) Via.refl e7 S_wVerdict_INDETERMINATE_P (g := (mkF m 66 #[.val (.int i0), .val (.ref wEffect_PERMIT), .val (.ref wEffect_DENY), .val (.ref wVerdict_DENY), .unset] [(.ref wVerdict_INDETERMINATE_P)])) rfl (hb hby at_66)
  obtain ⟨T9, X9, e9, st9⟩ := getS2 X8 hx hZ hown (host := "") (Or.inl (hw _ (List.mem_of_getElem? (i := 32) rfl))) Via.refl e8 S_wVerdict_INDETERMINATE_D (g := (mkF m 72 #[.val (.int i0), .val (.ref wEffect_PERMIT), .val (.ref wEffect_DENY), .val (.ref wVerdict_DENY), .unset] [])) rfl (hb hby at_72)
  obtain ⟨cq10, kq10, q10a, q10b, q10c⟩ := isOf hZ e9 E_wEffect_DENY
  obtain ⟨_, _, ⟨T10, L10, k10, n10⟩, -, X10, ⟨Lc10, hQ10, l10, y10, z10⟩, st10⟩ := X9.virtualBack hx (y := (⟨"com/example/open_verdict/openverdict/Effect", "verdict", "()Lcom/example/open_verdict/openverdict/Verdict;"⟩ : MethodName)) (z := (⟨"com/example/open_verdict/openverdict/Effect", "verdict", "()Lcom/example/open_verdict/openverdict/Verdict;"⟩ : MethodName)) hown (mvT hZ (hw _ (List.mem_of_getElem? (i := 11) rfl))) (mvT hZ (hw _ (List.mem_of_getElem? (i := 12) rfl))) (notFace_of_selects (args := #[]) (mvT hZ (hw _ (List.mem_of_getElem? (i := 14) rfl)))) (mvT hZ (hw _ (List.mem_of_getElem? (i := 14) rfl))) (mvT hZ (hw _ (List.mem_of_getElem? (i := 13) rfl))) (by decide) (backOf (W := 0) (own_r2_6 l Z a0 hw [] wEffect_PERMIT wEffect_DENY wVerdict_PERMIT wVerdict_DENY wVerdict_INDETERMINATE_P wVerdict_INDETERMINATE_D h0 n0 Z0 F ) hZ (hw _ (List.mem_of_getElem? (i := 15) rfl)) (hw _ (List.mem_of_getElem? (i := 1) rfl)) (by decide) (by decide)) q10a q10c (g := (mkF m 84 #[.val (.int i0), .val (.ref wEffect_PERMIT), .val (.ref wEffect_DENY), .val (.ref wVerdict_DENY), .val (.ref wVerdict_INDETERMINATE_D)] [(.ref wEffect_DENY)])) rfl (by rw [hml]; rfl) (Steps.refl _) (argsL := []) (rest := []) (lenOf own_pd1 rfl) rfl (by show 2 * 0 + _ ≤ _; exact Nat.le_of_eq rfl) (hb hby at_84) (fun _ _ => ⟨rfl, e9, (by decide : 0 + 0 ≤ _), (by decide : 0 + 0 ≤ _)⟩)
  dsimp only [Pt.U, Pt.locs, Pt.cells, Pt.slots] at X10 l10 y10 z10 st10 hQ10
  subst l10 y10 z10
  obtain ⟨rfl, N10q, e10⟩ := hQ10
  have N10 := Fr.app N7 N10q
  obtain ⟨cq11, kq11, q11a, q11b, q11c⟩ := isOf hZ e10 E_wEffect_DENY
  obtain ⟨_, _, ⟨T11, L11, k11, n11⟩, -, X11, ⟨Lc11, hQ11, l11, y11, z11⟩, st11⟩ := X10.virtualBack hx (y := (⟨"com/example/open_verdict/openverdict/Effect", "indeterminate", "()Lcom/example/open_verdict/openverdict/Verdict;"⟩ : MethodName)) (z := (⟨"com/example/open_verdict/openverdict/Effect", "indeterminate", "()Lcom/example/open_verdict/openverdict/Verdict;"⟩ : MethodName)) hown (mvT hZ (hw _ (List.mem_of_getElem? (i := 23) rfl))) (mvT hZ (hw _ (List.mem_of_getElem? (i := 24) rfl))) (notFace_of_selects (args := #[]) (mvT hZ (hw _ (List.mem_of_getElem? (i := 26) rfl)))) (mvT hZ (hw _ (List.mem_of_getElem? (i := 26) rfl))) (mvT hZ (hw _ (List.mem_of_getElem? (i := 25) rfl))) (by decide) (backOf (W := 0) (own_r3_7 l Z a0 hw [] wEffect_PERMIT wEffect_DENY wVerdict_PERMIT wVerdict_DENY wVerdict_INDETERMINATE_P wVerdict_INDETERMINATE_D h0 n0 Z0 F ) hZ (hw _ (List.mem_of_getElem? (i := 27) rfl)) (hw _ (List.mem_of_getElem? (i := 1) rfl)) (by decide) (by decide)) q11a q11c (g := (mkF m 92 #[.val (.int i0), .val (.ref wEffect_PERMIT), .val (.ref wEffect_DENY), .val (.ref wVerdict_DENY), .val (.ref wVerdict_INDETERMINATE_D)] [(.ref wEffect_DENY)])) rfl (by rw [hml]; rfl) (Steps.refl _) (argsL := []) (rest := []) (lenOf own_pd1 rfl) rfl (by show 2 * 0 + _ ≤ _; exact Nat.le_of_eq rfl) (hb hby at_92) (fun _ _ => ⟨rfl, e10, (by decide : 0 + 0 ≤ _), (by decide : 0 + 0 ≤ _)⟩)
  dsimp only [Pt.U, Pt.locs, Pt.cells, Pt.slots] at X11 l11 y11 z11 st11 hQ11
  subst l11 y11 z11
  obtain ⟨rfl, N11q, e11⟩ := hQ11
  have N11 := Fr.app N10 N11q
  obtain ⟨fs, hr, hrun, hended, hW, hsame⟩ := X11.leave (v := some (.int (1 : Int32))) (fun h => by rw [Bd.returns] at h; cases h)
  refine ⟨_, _, pre0 _ ?_, hrun, hended, _, _, rfl, ?_, ⟨_, rfl⟩, hW, hsame.mono (by decide) (by decide)⟩
  · show Steps p.tables e below (s₁.setTop (mkF m 0 #[.val (.int i0), .unset, .unset, .unset, .unset] [])) _
    refine XS.iloadN X0.here hx rfl (hb hby at_0) rfl ?_
    show Steps p.tables e below (s₁.setTop (mkF m 1 #[.val (.int i0), .unset, .unset, .unset, .unset] [(.int i0)])) _
    refine XS.iconst X0.here hx rfl (hb hby at_1) ?_
    show Steps p.tables e below (s₁.setTop (mkF m 2 #[.val (.int i0), .unset, .unset, .unset, .unset] [(.int (1 : Int32)), (.int i0)])) _
    refine XS.iand X0.here hx rfl (hb hby at_2) rfl ?_
    show Steps p.tables e below (s₁.setTop (mkF m 3 #[.val (.int i0), .unset, .unset, .unset, .unset] [(.int (i0 &&& (1 : Int32)))])) _
    rw [ha]
    show Steps p.tables e below (s₁.setTop (mkF m 3 #[.val (.int i0), .unset, .unset, .unset, .unset] [(.int (0 : Int32))])) _
    refine XS.ifNo X0.here hx rfl (hb hby at_3) rfl ((if0 _ _).trans (teq (by decide : (0 : Int32) = (0 : Int32))).2) ?_
    show Steps p.tables e below (s₁.setTop (mkF m 6 #[.val (.int i0), .unset, .unset, .unset, .unset] [])) _
    refine st1 _ ?_
    show Steps p.tables e below (T1.setTop (mkF m 9 #[.val (.int i0), .unset, .unset, .unset, .unset] [(.ref wEffect_PERMIT)])) _
    refine XS.goto X1.here hx rfl (pc0 := 9) (pc' := 15) rfl (hb hby at_9) (by decide) (by decide) ?_
    show Steps p.tables e below (T1.setTop (mkF m 15 #[.val (.int i0), .unset, .unset, .unset, .unset] [(.ref wEffect_PERMIT)])) _
    refine XS.astoreN X1.here hx rfl (hb hby at_15) rfl rfl (l' := #[.val (.int i0), .val (.ref wEffect_PERMIT), .unset, .unset, .unset]) rfl ?_
    show Steps p.tables e below (T1.setTop (mkF m 16 #[.val (.int i0), .val (.ref wEffect_PERMIT), .unset, .unset, .unset] [])) _
    refine XS.aloadN X1.here hx rfl (hb hby at_16) rfl rfl ?_
    show Steps p.tables e below (T1.setTop (mkF m 17 #[.val (.int i0), .val (.ref wEffect_PERMIT), .unset, .unset, .unset] [(.ref wEffect_PERMIT)])) _
    refine st2.trans ?_
    show Steps p.tables e below (T2.setTop (mkF m 20 #[.val (.int i0), .val (.ref wEffect_PERMIT), .unset, .unset, .unset] [(.ref wEffect_DENY)])) _
    refine XS.astoreN X2.here hx rfl (hb hby at_20) rfl rfl (l' := #[.val (.int i0), .val (.ref wEffect_PERMIT), .val (.ref wEffect_DENY), .unset, .unset]) rfl ?_
    show Steps p.tables e below (T2.setTop (mkF m 21 #[.val (.int i0), .val (.ref wEffect_PERMIT), .val (.ref wEffect_DENY), .unset, .unset] [])) _
    refine XS.aloadN X2.here hx rfl (hb hby at_21) rfl rfl ?_
    show Steps p.tables e below (T2.setTop (mkF m 22 #[.val (.int i0), .val (.ref wEffect_PERMIT), .val (.ref wEffect_DENY), .unset, .unset] [(.ref wEffect_DENY)])) _
    refine XS.ifnullNo X2.here hx rfl (hb hby at_22) rfl ?_
    show Steps p.tables e below (T2.setTop (mkF m 25 #[.val (.int i0), .val (.ref wEffect_PERMIT), .val (.ref wEffect_DENY), .unset, .unset] [])) _
    refine XS.aloadN X2.here hx rfl (hb hby at_25) rfl rfl ?_
    show Steps p.tables e below (T2.setTop (mkF m 26 #[.val (.int i0), .val (.ref wEffect_PERMIT), .val (.ref wEffect_DENY), .unset, .unset] [(.ref wEffect_DENY)])) _
    refine XS.aloadN X2.here hx rfl (hb hby at_26) rfl rfl ?_
    show Steps p.tables e below (T2.setTop (mkF m 27 #[.val (.int i0), .val (.ref wEffect_PERMIT), .val (.ref wEffect_DENY), .unset, .unset] [(.ref wEffect_PERMIT), (.ref wEffect_DENY)])) _
    refine Jvm.RoadKit.acmp (g := (mkF m 27 #[.val (.int i0), .val (.ref wEffect_PERMIT), .val (.ref wEffect_DENY), .unset, .unset] [(.ref wEffect_PERMIT), (.ref wEffect_DENY)])) X2 hx rfl rfl rfl (pc0 := 27) (pc' := 32) (same := false) rfl (hb hby at_27) rfl (decide_eq_false fun q => (Ne.symm ne_wEffect_PERMIT_wEffect_DENY) (Value.ref.inj q)) (by decide) (by decide) ?_
    show Steps p.tables e below (T2.setTop (mkF m 32 #[.val (.int i0), .val (.ref wEffect_PERMIT), .val (.ref wEffect_DENY), .unset, .unset] [])) _
    refine XS.aloadN X2.here hx rfl (hb hby at_32) rfl rfl ?_
    show Steps p.tables e below (T2.setTop (mkF m 33 #[.val (.int i0), .val (.ref wEffect_PERMIT), .val (.ref wEffect_DENY), .unset, .unset] [(.ref wEffect_DENY)])) _
    refine st3.trans ?_
    show Steps p.tables e below (T3.setTop (mkF m 36 #[.val (.int i0), .val (.ref wEffect_PERMIT), .val (.ref wEffect_DENY), .unset, .unset] [(.ref wEffect_PERMIT)])) _
    refine XS.aloadN X3.here hx rfl (hb hby at_36) rfl rfl ?_
    show Steps p.tables e below (T3.setTop (mkF m 37 #[.val (.int i0), .val (.ref wEffect_PERMIT), .val (.ref wEffect_DENY), .unset, .unset] [(.ref wEffect_PERMIT), (.ref wEffect_PERMIT)])) _
    refine Jvm.RoadKit.acmp (g := (mkF m 37 #[.val (.int i0), .val (.ref wEffect_PERMIT), .val (.ref wEffect_DENY), .unset, .unset] [(.ref wEffect_PERMIT), (.ref wEffect_PERMIT)])) X3 hx rfl rfl rfl (pc0 := 37) (pc' := 42) (same := true) rfl (hb hby at_37) rfl (decide_eq_true rfl) (by decide) (by decide) ?_
    show Steps p.tables e below (T3.setTop (mkF m 42 #[.val (.int i0), .val (.ref wEffect_PERMIT), .val (.ref wEffect_DENY), .unset, .unset] [])) _
    refine XS.aloadN X3.here hx rfl (hb hby at_42) rfl rfl ?_
    show Steps p.tables e below (T3.setTop (mkF m 43 #[.val (.int i0), .val (.ref wEffect_PERMIT), .val (.ref wEffect_DENY), .unset, .unset] [(.ref wEffect_PERMIT)])) _
    refine st4.trans ?_
    show Steps p.tables e below (T4.setTop (mkF m 46 #[.val (.int i0), .val (.ref wEffect_PERMIT), .val (.ref wEffect_DENY), .unset, .unset] [(.ref wVerdict_PERMIT)])) _
    refine st5 _ ?_
    show Steps p.tables e below (T5.setTop (mkF m 49 #[.val (.int i0), .val (.ref wEffect_PERMIT), .val (.ref wEffect_DENY), .unset, .unset] [(.ref wVerdict_PERMIT), (.ref wVerdict_PERMIT)])) _
    refine Jvm.RoadKit.acmp (g := (mkF m 49 #[.val (.int i0), .val (.ref wEffect_PERMIT), .val (.ref wEffect_DENY), .unset, .unset] [(.ref wVerdict_PERMIT), (.ref wVerdict_PERMIT)])) X5 hx rfl rfl rfl (pc0 := 49) (pc' := 52) (same := true) rfl (hb hby at_49) rfl (decide_eq_true rfl) (by decide) (by decide) ?_
    show Steps p.tables e below (T5.setTop (mkF m 52 #[.val (.int i0), .val (.ref wEffect_PERMIT), .val (.ref wEffect_DENY), .unset, .unset] [])) _
    refine st6 _ ?_
    show Steps p.tables e below (T6.setTop (mkF m 55 #[.val (.int i0), .val (.ref wEffect_PERMIT), .val (.ref wEffect_DENY), .unset, .unset] [(.ref wVerdict_DENY)])) _
    refine XS.goto X6.here hx rfl (pc0 := 55) (pc' := 61) rfl (hb hby at_55) (by decide) (by decide) ?_
    show Steps p.tables e below (T6.setTop (mkF m 61 #[.val (.int i0), .val (.ref wEffect_PERMIT), .val (.ref wEffect_DENY), .unset, .unset] [(.ref wVerdict_DENY)])) _
    refine XS.astoreN X6.here hx rfl (hb hby at_61) rfl rfl (l' := #[.val (.int i0), .val (.ref wEffect_PERMIT), .val (.ref wEffect_DENY), .val (.ref wVerdict_DENY), .unset]) rfl ?_
    show Steps p.tables e below (T6.setTop (mkF m 62 #[.val (.int i0), .val (.ref wEffect_PERMIT), .val (.ref wEffect_DENY), .val (.ref wVerdict_DENY), .unset] [])) _
    refine XS.aloadN X6.here hx rfl (hb hby at_62) rfl rfl ?_
    show Steps p.tables e below (T6.setTop (mkF m 63 #[.val (.int i0), .val (.ref wEffect_PERMIT), .val (.ref wEffect_DENY), .val (.ref wVerdict_DENY), .unset] [(.ref wEffect_PERMIT)])) _
    refine st7.trans ?_
    show Steps p.tables e below (T7.setTop (mkF m 66 #[.val (.int i0), .val (.ref wEffect_PERMIT), .val (.ref wEffect_DENY), .val (.ref wVerdict_DENY), .unset] [(.ref wVerdict_INDETERMINATE_P)])) _
    refine st8 _ ?_
    show Steps p.tables e below (T8.setTop (mkF m 69 #[.val (.int i0), .val (.ref wEffect_PERMIT), .val (.ref wEffect_DENY), .val (.ref wVerdict_DENY), .unset] [(.ref wVerdict_INDETERMINATE_P), (.ref wVerdict_INDETERMINATE_P)])) _
    refine Jvm.RoadKit.acmp (g := (mkF m 69 #[.val (.int i0), .val (.ref wEffect_PERMIT), .val (.ref wEffect_DENY), .val (.ref wVerdict_DENY), .unset] [(.ref wVerdict_INDETERMINATE_P), (.ref wVerdict_INDETERMINATE_P)])) X8 hx rfl rfl rfl (pc0 := 69) (pc' := 72) (same := true) rfl (hb hby at_69) rfl (decide_eq_true rfl) (by decide) (by decide) ?_
    show Steps p.tables e below (T8.setTop (mkF m 72 #[.val (.int i0), .val (.ref wEffect_PERMIT), .val (.ref wEffect_DENY), .val (.ref wVerdict_DENY), .unset] [])) _
    refine st9 _ ?_
    show Steps p.tables e below (T9.setTop (mkF m 75 #[.val (.int i0), .val (.ref wEffect_PERMIT), .val (.ref wEffect_DENY), .val (.ref wVerdict_DENY), .unset] [(.ref wVerdict_INDETERMINATE_D)])) _
    refine XS.goto X9.here hx rfl (pc0 := 75) (pc' := 81) rfl (hb hby at_75) (by decide) (by decide) ?_
    show Steps p.tables e below (T9.setTop (mkF m 81 #[.val (.int i0), .val (.ref wEffect_PERMIT), .val (.ref wEffect_DENY), .val (.ref wVerdict_DENY), .unset] [(.ref wVerdict_INDETERMINATE_D)])) _
    refine XS.astore X9.here hx rfl (hb hby at_81) rfl rfl (l' := #[.val (.int i0), .val (.ref wEffect_PERMIT), .val (.ref wEffect_DENY), .val (.ref wVerdict_DENY), .val (.ref wVerdict_INDETERMINATE_D)]) rfl ?_
    show Steps p.tables e below (T9.setTop (mkF m 83 #[.val (.int i0), .val (.ref wEffect_PERMIT), .val (.ref wEffect_DENY), .val (.ref wVerdict_DENY), .val (.ref wVerdict_INDETERMINATE_D)] [])) _
    refine XS.aloadN X9.here hx rfl (hb hby at_83) rfl rfl ?_
    show Steps p.tables e below (T9.setTop (mkF m 84 #[.val (.int i0), .val (.ref wEffect_PERMIT), .val (.ref wEffect_DENY), .val (.ref wVerdict_DENY), .val (.ref wVerdict_INDETERMINATE_D)] [(.ref wEffect_DENY)])) _
    refine st10.trans ?_
    show Steps p.tables e below (T10.setTop (mkF m 87 #[.val (.int i0), .val (.ref wEffect_PERMIT), .val (.ref wEffect_DENY), .val (.ref wVerdict_DENY), .val (.ref wVerdict_INDETERMINATE_D)] [(.ref wVerdict_DENY)])) _
    refine XS.aloadN X10.here hx rfl (hb hby at_87) rfl rfl ?_
    show Steps p.tables e below (T10.setTop (mkF m 88 #[.val (.int i0), .val (.ref wEffect_PERMIT), .val (.ref wEffect_DENY), .val (.ref wVerdict_DENY), .val (.ref wVerdict_INDETERMINATE_D)] [(.ref wVerdict_DENY), (.ref wVerdict_DENY)])) _
    refine Jvm.RoadKit.acmp (g := (mkF m 88 #[.val (.int i0), .val (.ref wEffect_PERMIT), .val (.ref wEffect_DENY), .val (.ref wVerdict_DENY), .val (.ref wVerdict_INDETERMINATE_D)] [(.ref wVerdict_DENY), (.ref wVerdict_DENY)])) X10 hx rfl rfl rfl (pc0 := 88) (pc' := 91) (same := true) rfl (hb hby at_88) rfl (decide_eq_true rfl) (by decide) (by decide) ?_
    show Steps p.tables e below (T10.setTop (mkF m 91 #[.val (.int i0), .val (.ref wEffect_PERMIT), .val (.ref wEffect_DENY), .val (.ref wVerdict_DENY), .val (.ref wVerdict_INDETERMINATE_D)] [])) _
    refine XS.aloadN X10.here hx rfl (hb hby at_91) rfl rfl ?_
    show Steps p.tables e below (T10.setTop (mkF m 92 #[.val (.int i0), .val (.ref wEffect_PERMIT), .val (.ref wEffect_DENY), .val (.ref wVerdict_DENY), .val (.ref wVerdict_INDETERMINATE_D)] [(.ref wEffect_DENY)])) _
    refine st11.trans ?_
    show Steps p.tables e below (T11.setTop (mkF m 95 #[.val (.int i0), .val (.ref wEffect_PERMIT), .val (.ref wEffect_DENY), .val (.ref wVerdict_DENY), .val (.ref wVerdict_INDETERMINATE_D)] [(.ref wVerdict_INDETERMINATE_D)])) _
    refine XS.aload X11.here hx rfl (hb hby at_95) rfl rfl ?_
    show Steps p.tables e below (T11.setTop (mkF m 97 #[.val (.int i0), .val (.ref wEffect_PERMIT), .val (.ref wEffect_DENY), .val (.ref wVerdict_DENY), .val (.ref wVerdict_INDETERMINATE_D)] [(.ref wVerdict_INDETERMINATE_D), (.ref wVerdict_INDETERMINATE_D)])) _
    refine Jvm.RoadKit.acmp (g := (mkF m 97 #[.val (.int i0), .val (.ref wEffect_PERMIT), .val (.ref wEffect_DENY), .val (.ref wVerdict_DENY), .val (.ref wVerdict_INDETERMINATE_D)] [(.ref wVerdict_INDETERMINATE_D), (.ref wVerdict_INDETERMINATE_D)])) X11 hx rfl rfl rfl (pc0 := 97) (pc' := 100) (same := true) rfl (hb hby at_97) rfl (decide_eq_true rfl) (by decide) (by decide) ?_
    show Steps p.tables e below (T11.setTop (mkF m 100 #[.val (.int i0), .val (.ref wEffect_PERMIT), .val (.ref wEffect_DENY), .val (.ref wVerdict_DENY), .val (.ref wVerdict_INDETERMINATE_D)] [])) _
    refine XS.iconst X11.here hx rfl (hb hby at_100) ?_
    show Steps p.tables e below (T11.setTop (mkF m 101 #[.val (.int i0), .val (.ref wEffect_PERMIT), .val (.ref wEffect_DENY), .val (.ref wVerdict_DENY), .val (.ref wVerdict_INDETERMINATE_D)] [(.int (1 : Int32))])) _
    refine XS.goto X11.here hx rfl (pc0 := 101) (pc' := 105) rfl (hb hby at_101) (by decide) (by decide) ?_
    show Steps p.tables e below (T11.setTop (mkF m 105 #[.val (.int i0), .val (.ref wEffect_PERMIT), .val (.ref wEffect_DENY), .val (.ref wVerdict_DENY), .val (.ref wVerdict_INDETERMINATE_D)] [(.int (1 : Int32))])) _
    exact retN X11 hx (t := .boolean) Bd.returns (by simp) (hb hby at_105) hr
  · exact ⟨rfl, N11, e11⟩
set_option maxRecDepth 65536 in
set_option maxHeartbeats 40000000 in
theorem own_r0_a1 (l : Launch) (Z : State) (a0 : Array Value) (hw : ∀ d ∈ tables_1, d.before a0 Z = true) (ws : List Jvm.Cond) (wEffect_PERMIT : Addr) (wEffect_DENY : Addr) (wVerdict_PERMIT : Addr) (wVerdict_DENY : Addr) (wVerdict_INDETERMINATE_P : Addr) (wVerdict_INDETERMINATE_D : Addr) (h0 : Heap) (n0 : Nat) (Z0 : n0 ≤ h0.size) (F : own_W Z h0 wEffect_PERMIT wEffect_DENY wVerdict_PERMIT wVerdict_DENY wVerdict_INDETERMINATE_P wVerdict_INDETERMINATE_D) (i0 : Int32) (ha : (i0 &&& (1 : Int32)) = (1 : Int32)) :
    MetFree l x (head1 (Jvm.Cond.code x code maxLocals ret :: ws) room_1) (fun a U => a = #[(.int i0)] ∧ Z.Warmed39 U.vm ∧ U.heap = h0) (fun _ _ _ _ _ => True) (fun _ U o U' => ∃ v L, o = .returned v ∧ own_Q (.int (1 : Int32)) h0 n0 v U'.heap L ∧ FrameEnd U o U' L room_1.cells room_1.slots) := by
  obtain ⟨S_wEffect_PERMIT, E_wEffect_PERMIT, S_wEffect_DENY, E_wEffect_DENY, S_wVerdict_PERMIT, E_wVerdict_PERMIT, S_wVerdict_DENY, E_wVerdict_DENY, S_wVerdict_INDETERMINATE_P, E_wVerdict_INDETERMINATE_P, S_wVerdict_INDETERMINATE_D, E_wVerdict_INDETERMINATE_D, F_wEffect_DENY_ordinal, F_wEffect_PERMIT_ordinal, F_wEffect_PERMIT_verdict, F_wEffect_PERMIT_indeterminate, F_wEffect_DENY_verdict, F_wEffect_DENY_indeterminate, F_wVerdict_DENY_ordinal, F_wVerdict_PERMIT_ordinal, F_wVerdict_INDETERMINATE_D_ordinal, F_wVerdict_INDETERMINATE_P_ordinal, ne_wEffect_PERMIT_wEffect_DENY, ne_wVerdict_PERMIT_wVerdict_DENY, ne_wVerdict_PERMIT_wVerdict_INDETERMINATE_P, ne_wVerdict_PERMIT_wVerdict_INDETERMINATE_D, ne_wVerdict_DENY_wVerdict_INDETERMINATE_P, ne_wVerdict_DENY_wVerdict_INDETERMINATE_D, ne_wVerdict_INDETERMINATE_P_wVerdict_INDETERMINATE_D⟩ := id F
  refine MetFree.of_bodySF (plainFor_of_name own_pn_EffectOppositePinLaw) hisR ?_
  intro p e s m args below meth c s₁ Bd hml0 hP hK
  obtain ⟨rfl, hZ, hh⟩ := hP
  have hx := Bd.exec
  have hby := Bd.bytes
  have hml : c.maxLocals = 5 := hml0
  have hown : s.vm.findClass "com/example/open_verdict/openverdict/EffectOppositePinLaw" = some m.cls := findClass_of_methodNamed Bd.named
  have X0 : Stand p l e room_1 s m #[(.int i0)] below meth c s₁ [] 0 0 := Stand.of_body Bd
  have e0 : s₁.heap = h0 := by rw [← hh, Bd.state]; rfl
  have N0 := Fr.nil n0
  have pre0 : ∀ t, Steps p.tables e below (s₁.setTop (mkF m 0 #[.val (.int i0), .unset, .unset, .unset, .unset] [])) t → Steps p.tables e below (s₁.setTop (entryFrame m #[(.int i0)] maxLocals)) t := fun t k => castTop (own_ef0_I m i0) k
  obtain ⟨T1, X1, e1, st1⟩ := getS2 X0 hx hZ hown (host := "") (Or.inl (hw _ (List.mem_of_getElem? (i := 34) rfl))) Via.refl e0 S_wEffect_DENY (g := (mkF m 12 #[.val (.int i0), .unset, .unset, .unset, .unset] [])) rfl (hb hby at_12)
  obtain ⟨cq2, kq2, q2a, q2b, q2c⟩ := isOf hZ e1 E_wEffect_DENY
  obtain ⟨_, _, ⟨T2, L2, k2, n2⟩, -, X2, ⟨Lc2, hQ2, l2, y2, z2⟩, st2⟩ := X1.virtualBack hx (y := (⟨"com/example/open_verdict/openverdict/Effect", "opposite", "()Lcom/example/open_verdict/openverdict/Effect;"⟩ : MethodName)) (z := (⟨"com/example/open_verdict/openverdict/Effect", "opposite", "()Lcom/example/open_verdict/openverdict/Effect;"⟩ : MethodName)) hown (mvT hZ (hw _ (List.mem_of_getElem? (i := 3) rfl))) (mvT hZ (hw _ (List.mem_of_getElem? (i := 4) rfl))) (notFace_of_selects (args := #[]) (mvT hZ (hw _ (List.mem_of_getElem? (i := 6) rfl)))) (mvT hZ (hw _ (List.mem_of_getElem? (i := 6) rfl))) (mvT hZ (hw _ (List.mem_of_getElem? (i := 5) rfl))) (by decide) (backOf (W := 0) (own_r1_3 l Z a0 hw [] wEffect_PERMIT wEffect_DENY wVerdict_PERMIT wVerdict_DENY wVerdict_INDETERMINATE_P wVerdict_INDETERMINATE_D h0 n0 Z0 F ) hZ (hw _ (List.mem_of_getElem? (i := 7) rfl)) (hw _ (List.mem_of_getElem? (i := 1) rfl)) (by decide) (by decide)) q2a q2c (g := (mkF m 17 #[.val (.int i0), .val (.ref wEffect_DENY), .unset, .unset, .unset] [(.ref wEffect_DENY)])) rfl (by rw [hml]; rfl) (Steps.refl _) (argsL := []) (rest := []) (lenOf own_pd0 rfl) rfl (by show 2 * 0 + _ ≤ _; exact Nat.le_of_eq rfl) (hb hby at_17) (fun _ _ => ⟨rfl, e1, (by decide : 0 + 0 ≤ _), (by decide : 0 + 0 ≤ _)⟩)
  dsimp only [Pt.U, Pt.locs, Pt.cells, Pt.slots] at X2 l2 y2 z2 st2 hQ2
  subst l2 y2 z2
  obtain ⟨rfl, N2q, e2⟩ := hQ2
  have N2 := Fr.app N0 N2q
  obtain ⟨cq3, kq3, q3a, q3b, q3c⟩ := isOf hZ e2 E_wEffect_PERMIT
  obtain ⟨_, _, ⟨T3, L3, k3, n3⟩, -, X3, ⟨Lc3, hQ3, l3, y3, z3⟩, st3⟩ := X2.virtualBack hx (y := (⟨"com/example/open_verdict/openverdict/Effect", "opposite", "()Lcom/example/open_verdict/openverdict/Effect;"⟩ : MethodName)) (z := (⟨"com/example/open_verdict/openverdict/Effect", "opposite", "()Lcom/example/open_verdict/openverdict/Effect;"⟩ : MethodName)) hown (mvT hZ (hw _ (List.mem_of_getElem? (i := 3) rfl))) (mvT hZ (hw _ (List.mem_of_getElem? (i := 4) rfl))) (notFace_of_selects (args := #[]) (mvT hZ (hw _ (List.mem_of_getElem? (i := 6) rfl)))) (mvT hZ (hw _ (List.mem_of_getElem? (i := 6) rfl))) (mvT hZ (hw _ (List.mem_of_getElem? (i := 5) rfl))) (by decide) (backOf (W := 0) (own_r1_2 l Z a0 hw [] wEffect_PERMIT wEffect_DENY wVerdict_PERMIT wVerdict_DENY wVerdict_INDETERMINATE_P wVerdict_INDETERMINATE_D h0 n0 Z0 F ) hZ (hw _ (List.mem_of_getElem? (i := 7) rfl)) (hw _ (List.mem_of_getElem? (i := 1) rfl)) (by decide) (by decide)) q3a q3c (g := (mkF m 33 #[.val (.int i0), .val (.ref wEffect_DENY), .val (.ref wEffect_PERMIT), .unset, .unset] [(.ref wEffect_PERMIT)])) rfl (by rw [hml]; rfl) (Steps.refl _) (argsL := []) (rest := []) (lenOf own_pd0 rfl) rfl (by show 2 * 0 + _ ≤ _; exact Nat.le_of_eq rfl) (hb hby at_33) (fun _ _ => ⟨rfl, e2, (by decide : 0 + 0 ≤ _), (by decide : 0 + 0 ≤ _)⟩)
  dsimp only [Pt.U, Pt.locs, Pt.cells, Pt.slots] at X3 l3 y3 z3 st3 hQ3
  subst l3 y3 z3
  obtain ⟨rfl, N3q, e3⟩ := hQ3
  have N3 := Fr.app N2 N3q
  obtain ⟨cq4, kq4, q4a, q4b, q4c⟩ := isOf hZ e3 E_wEffect_DENY
  obtain ⟨_, _, ⟨T4, L4, k4, n4⟩, -, X4, ⟨Lc4, hQ4, l4, y4, z4⟩, st4⟩ := X3.virtualBack hx (y := (⟨"com/example/open_verdict/openverdict/Effect", "verdict", "()Lcom/example/open_verdict/openverdict/Verdict;"⟩ : MethodName)) (z := (⟨"com/example/open_verdict/openverdict/Effect", "verdict", "()Lcom/example/open_verdict/openverdict/Verdict;"⟩ : MethodName)) hown (mvT hZ (hw _ (List.mem_of_getElem? (i := 11) rfl))) (mvT hZ (hw _ (List.mem_of_getElem? (i := 12) rfl))) (notFace_of_selects (args := #[]) (mvT hZ (hw _ (List.mem_of_getElem? (i := 14) rfl)))) (mvT hZ (hw _ (List.mem_of_getElem? (i := 14) rfl))) (mvT hZ (hw _ (List.mem_of_getElem? (i := 13) rfl))) (by decide) (backOf (W := 0) (own_r2_6 l Z a0 hw [] wEffect_PERMIT wEffect_DENY wVerdict_PERMIT wVerdict_DENY wVerdict_INDETERMINATE_P wVerdict_INDETERMINATE_D h0 n0 Z0 F ) hZ (hw _ (List.mem_of_getElem? (i := 15) rfl)) (hw _ (List.mem_of_getElem? (i := 1) rfl)) (by decide) (by decide)) q4a q4c (g := (mkF m 43 #[.val (.int i0), .val (.ref wEffect_DENY), .val (.ref wEffect_PERMIT), .unset, .unset] [(.ref wEffect_DENY)])) rfl (by rw [hml]; rfl) (Steps.refl _) (argsL := []) (rest := []) (lenOf own_pd1 rfl) rfl (by show 2 * 0 + _ ≤ _; exact Nat.le_of_eq rfl) (hb hby at_43) (fun _ _ => ⟨rfl, e3, (by decide : 0 + 0 ≤ _), (by decide : 0 + 0 ≤ _)⟩)
  dsimp only [Pt.U, Pt.locs, Pt.cells, Pt.slots] at X4 l4 y4 z4 st4 hQ4
  subst l4 y4 z4
  obtain ⟨rfl, N4q, e4⟩ := hQ4
  have N4 := Fr.app N3 N4q
  obtain ⟨T5, X5, e5, st5⟩ := getS2 X4 hx hZ hown (host := "") (Or.inl (hw _ (List.mem_of_getElem? (i := 20) rfl))) Via.refl e4 S_wVerdict_PERMIT (g := (mkF m 46 #[.val (.int i0), .val (.ref wEffect_DENY), .val (.ref wEffect_PERMIT), .unset, .unset] [(.ref wVerdict_DENY)])) rfl (hb hby at_46)
  obtain ⟨T6, X6, e6, st6⟩ := getS2 X5 hx hZ hown (host := "") (Or.inl (hw _ (List.mem_of_getElem? (i := 20) rfl))) Via.refl e5 S_wVerdict_PERMIT (g := (mkF m 58 #[.val (.int i0), .val (.ref wEffect_DENY), .val (.ref wEffect_PERMIT), .unset, .unset] [])) rfl (hb hby at_58)
  obtain ⟨cq7, kq7, q7a, q7b, q7c⟩ := isOf hZ e6 E_wEffect_DENY
  obtain ⟨_, _, ⟨T7, L7, k7, n7⟩, -, X7, ⟨Lc7, hQ7, l7, y7, z7⟩, st7⟩ := X6.virtualBack hx (y := (⟨"com/example/open_verdict/openverdict/Effect", "indeterminate", "()Lcom/example/open_verdict/openverdict/Verdict;"⟩ : MethodName)) (z := (⟨"com/example/open_verdict/openverdict/Effect", "indeterminate", "()Lcom/example/open_verdict/openverdict/Verdict;"⟩ : MethodName)) hown (mvT hZ (hw _ (List.mem_of_getElem? (i := 23) rfl))) (mvT hZ (hw _ (List.mem_of_getElem? (i := 24) rfl))) (notFace_of_selects (args := #[]) (mvT hZ (hw _ (List.mem_of_getElem? (i := 26) rfl)))) (mvT hZ (hw _ (List.mem_of_getElem? (i := 26) rfl))) (mvT hZ (hw _ (List.mem_of_getElem? (i := 25) rfl))) (by decide) (backOf (W := 0) (own_r3_7 l Z a0 hw [] wEffect_PERMIT wEffect_DENY wVerdict_PERMIT wVerdict_DENY wVerdict_INDETERMINATE_P wVerdict_INDETERMINATE_D h0 n0 Z0 F ) hZ (hw _ (List.mem_of_getElem? (i := 27) rfl)) (hw _ (List.mem_of_getElem? (i := 1) rfl)) (by decide) (by decide)) q7a q7c (g := (mkF m 63 #[.val (.int i0), .val (.ref wEffect_DENY), .val (.ref wEffect_PERMIT), .val (.ref wVerdict_PERMIT), .unset] [(.ref wEffect_DENY)])) rfl (by rw [hml]; rfl) (Steps.refl _) (argsL := []) (rest := []) (lenOf own_pd1 rfl) rfl (by show 2 * 0 + _ ≤ _; exact Nat.le_of_eq rfl) (hb hby at_63) (fun _ _ => ⟨rfl, e6, (by decide : 0 + 0 ≤ _), (by decide : 0 + 0 ≤ _)⟩)
  dsimp only [Pt.U, Pt.locs, Pt.cells, Pt.slots] at X7 l7 y7 z7 st7 hQ7
  subst l7 y7 z7
  obtain ⟨rfl, N7q, e7⟩ := hQ7
  have N7 := Fr.app N4 N7q
  obtain ⟨T8, X8, e8, st8⟩ := getS2 X7 hx hZ hown (host := "") (Or.inl (hw _ (List.mem_of_getElem? (i := 31) rfl))) Via.refl e7 S_wVerdict_INDETERMINATE_P (g := (mkF m 66 #[.val (.int i0), .val (.ref wEffect_DENY), .val (.ref wEffect_PERMIT), .val (.ref wVerdict_PERMIT), .unset] [(.ref wVerdict_INDETERMINATE_D)])) rfl (hb hby at_66)
  obtain ⟨T9, X9, e9, st9⟩ := getS2 X8 hx hZ hown (host := "") (Or.inl (hw _ (List.mem_of_getElem? (i := 31) rfl))) Via.refl e8 S_wVerdict_INDETERMINATE_P (g := (mkF m 78 #[.val (.int i0), .val (.ref wEffect_DENY), .val (.ref wEffect_PERMIT), .val (.ref wVerdict_PERMIT), .unset] [])) rfl (hb hby at_78)
  obtain ⟨cq10, kq10, q10a, q10b, q10c⟩ := isOf hZ e9 E_wEffect_PERMIT
  obtain ⟨_, _, ⟨T10, L10, k10, n10⟩, -, X10, ⟨Lc10, hQ10, l10, y10, z10⟩, st10⟩ := X9.virtualBack hx (y := (⟨"com/example/open_verdict/openverdict/Effect", "verdict", "()Lcom/example/open_verdict/openverdict/Verdict;"⟩ : MethodName)) (z := (⟨"com/example/open_verdict/openverdict/Effect", "verdict", "()Lcom/example/open_verdict/openverdict/Verdict;"⟩ : MethodName)) hown (mvT hZ (hw _ (List.mem_of_getElem? (i := 11) rfl))) (mvT hZ (hw _ (List.mem_of_getElem? (i := 12) rfl))) (notFace_of_selects (args := #[]) (mvT hZ (hw _ (List.mem_of_getElem? (i := 14) rfl)))) (mvT hZ (hw _ (List.mem_of_getElem? (i := 14) rfl))) (mvT hZ (hw _ (List.mem_of_getElem? (i := 13) rfl))) (by decide) (backOf (W := 0) (own_r2_4 l Z a0 hw [] wEffect_PERMIT wEffect_DENY wVerdict_PERMIT wVerdict_DENY wVerdict_INDETERMINATE_P wVerdict_INDETERMINATE_D h0 n0 Z0 F ) hZ (hw _ (List.mem_of_getElem? (i := 15) rfl)) (hw _ (List.mem_of_getElem? (i := 1) rfl)) (by decide) (by decide)) q10a q10c (g := (mkF m 84 #[.val (.int i0), .val (.ref wEffect_DENY), .val (.ref wEffect_PERMIT), .val (.ref wVerdict_PERMIT), .val (.ref wVerdict_INDETERMINATE_P)] [(.ref wEffect_PERMIT)])) rfl (by rw [hml]; rfl) (Steps.refl _) (argsL := []) (rest := []) (lenOf own_pd1 rfl) rfl (by show 2 * 0 + _ ≤ _; exact Nat.le_of_eq rfl) (hb hby at_84) (fun _ _ => ⟨rfl, e9, (by decide : 0 + 0 ≤ _), (by decide : 0 + 0 ≤ _)⟩)
  dsimp only [Pt.U, Pt.locs, Pt.cells, Pt.slots] at X10 l10 y10 z10 st10 hQ10
  subst l10 y10 z10
  obtain ⟨rfl, N10q, e10⟩ := hQ10
  have N10 := Fr.app N7 N10q
  obtain ⟨cq11, kq11, q11a, q11b, q11c⟩ := isOf hZ e10 E_wEffect_PERMIT
  obtain ⟨_, _, ⟨T11, L11, k11, n11⟩, -, X11, ⟨Lc11, hQ11, l11, y11, z11⟩, st11⟩ := X10.virtualBack hx (y := (⟨"com/example/open_verdict/openverdict/Effect", "indeterminate", "()Lcom/example/open_verdict/openverdict/Verdict;"⟩ : MethodName)) (z := (⟨"com/example/open_verdict/openverdict/Effect", "indeterminate", "()Lcom/example/open_verdict/openverdict/Verdict;"⟩ : MethodName)) hown (mvT hZ (hw _ (List.mem_of_getElem? (i := 23) rfl))) (mvT hZ (hw _ (List.mem_of_getElem? (i := 24) rfl))) (notFace_of_selects (args := #[]) (mvT hZ (hw _ (List.mem_of_getElem? (i := 26) rfl)))) (mvT hZ (hw _ (List.mem_of_getElem? (i := 26) rfl))) (mvT hZ (hw _ (List.mem_of_getElem? (i := 25) rfl))) (by decide) (backOf (W := 0) (own_r3_5 l Z a0 hw [] wEffect_PERMIT wEffect_DENY wVerdict_PERMIT wVerdict_DENY wVerdict_INDETERMINATE_P wVerdict_INDETERMINATE_D h0 n0 Z0 F ) hZ (hw _ (List.mem_of_getElem? (i := 27) rfl)) (hw _ (List.mem_of_getElem? (i := 1) rfl)) (by decide) (by decide)) q11a q11c (g := (mkF m 92 #[.val (.int i0), .val (.ref wEffect_DENY), .val (.ref wEffect_PERMIT), .val (.ref wVerdict_PERMIT), .val (.ref wVerdict_INDETERMINATE_P)] [(.ref wEffect_PERMIT)])) rfl (by rw [hml]; rfl) (Steps.refl _) (argsL := []) (rest := []) (lenOf own_pd1 rfl) rfl (by show 2 * 0 + _ ≤ _; exact Nat.le_of_eq rfl) (hb hby at_92) (fun _ _ => ⟨rfl, e10, (by decide : 0 + 0 ≤ _), (by decide : 0 + 0 ≤ _)⟩)
  dsimp only [Pt.U, Pt.locs, Pt.cells, Pt.slots] at X11 l11 y11 z11 st11 hQ11
  subst l11 y11 z11
  obtain ⟨rfl, N11q, e11⟩ := hQ11
  have N11 := Fr.app N10 N11q
  obtain ⟨fs, hr, hrun, hended, hW, hsame⟩ := X11.leave (v := some (.int (1 : Int32))) (fun h => by rw [Bd.returns] at h; cases h)
  refine ⟨_, _, pre0 _ ?_, hrun, hended, _, _, rfl, ?_, ⟨_, rfl⟩, hW, hsame.mono (by decide) (by decide)⟩
  · show Steps p.tables e below (s₁.setTop (mkF m 0 #[.val (.int i0), .unset, .unset, .unset, .unset] [])) _
    refine XS.iloadN X0.here hx rfl (hb hby at_0) rfl ?_
    show Steps p.tables e below (s₁.setTop (mkF m 1 #[.val (.int i0), .unset, .unset, .unset, .unset] [(.int i0)])) _
    refine XS.iconst X0.here hx rfl (hb hby at_1) ?_
    show Steps p.tables e below (s₁.setTop (mkF m 2 #[.val (.int i0), .unset, .unset, .unset, .unset] [(.int (1 : Int32)), (.int i0)])) _
    refine XS.iand X0.here hx rfl (hb hby at_2) rfl ?_
    show Steps p.tables e below (s₁.setTop (mkF m 3 #[.val (.int i0), .unset, .unset, .unset, .unset] [(.int (i0 &&& (1 : Int32)))])) _
    rw [ha]
    show Steps p.tables e below (s₁.setTop (mkF m 3 #[.val (.int i0), .unset, .unset, .unset, .unset] [(.int (1 : Int32))])) _
    refine XS.ifYes X0.here hx rfl (pc0 := 3) (pc' := 12) rfl (hb hby at_3) rfl ((if0 _ _).trans (feq (by decide : ¬ ((1 : Int32) = (0 : Int32)))).2) (by decide) (by decide) ?_
    show Steps p.tables e below (s₁.setTop (mkF m 12 #[.val (.int i0), .unset, .unset, .unset, .unset] [])) _
    refine st1 _ ?_
    show Steps p.tables e below (T1.setTop (mkF m 15 #[.val (.int i0), .unset, .unset, .unset, .unset] [(.ref wEffect_DENY)])) _
    refine XS.astoreN X1.here hx rfl (hb hby at_15) rfl rfl (l' := #[.val (.int i0), .val (.ref wEffect_DENY), .unset, .unset, .unset]) rfl ?_
    show Steps p.tables e below (T1.setTop (mkF m 16 #[.val (.int i0), .val (.ref wEffect_DENY), .unset, .unset, .unset] [])) _
    refine XS.aloadN X1.here hx rfl (hb hby at_16) rfl rfl ?_
    show Steps p.tables e below (T1.setTop (mkF m 17 #[.val (.int i0), .val (.ref wEffect_DENY), .unset, .unset, .unset] [(.ref wEffect_DENY)])) _
    refine st2.trans ?_
    show Steps p.tables e below (T2.setTop (mkF m 20 #[.val (.int i0), .val (.ref wEffect_DENY), .unset, .unset, .unset] [(.ref wEffect_PERMIT)])) _
    refine XS.astoreN X2.here hx rfl (hb hby at_20) rfl rfl (l' := #[.val (.int i0), .val (.ref wEffect_DENY), .val (.ref wEffect_PERMIT), .unset, .unset]) rfl ?_
    show Steps p.tables e below (T2.setTop (mkF m 21 #[.val (.int i0), .val (.ref wEffect_DENY), .val (.ref wEffect_PERMIT), .unset, .unset] [])) _
    refine XS.aloadN X2.here hx rfl (hb hby at_21) rfl rfl ?_
    show Steps p.tables e below (T2.setTop (mkF m 22 #[.val (.int i0), .val (.ref wEffect_DENY), .val (.ref wEffect_PERMIT), .unset, .unset] [(.ref wEffect_PERMIT)])) _
    refine XS.ifnullNo X2.here hx rfl (hb hby at_22) rfl ?_
    show Steps p.tables e below (T2.setTop (mkF m 25 #[.val (.int i0), .val (.ref wEffect_DENY), .val (.ref wEffect_PERMIT), .unset, .unset] [])) _
    refine XS.aloadN X2.here hx rfl (hb hby at_25) rfl rfl ?_
    show Steps p.tables e below (T2.setTop (mkF m 26 #[.val (.int i0), .val (.ref wEffect_DENY), .val (.ref wEffect_PERMIT), .unset, .unset] [(.ref wEffect_PERMIT)])) _
    refine XS.aloadN X2.here hx rfl (hb hby at_26) rfl rfl ?_
    show Steps p.tables e below (T2.setTop (mkF m 27 #[.val (.int i0), .val (.ref wEffect_DENY), .val (.ref wEffect_PERMIT), .unset, .unset] [(.ref wEffect_DENY), (.ref wEffect_PERMIT)])) _
    refine Jvm.RoadKit.acmp (g := (mkF m 27 #[.val (.int i0), .val (.ref wEffect_DENY), .val (.ref wEffect_PERMIT), .unset, .unset] [(.ref wEffect_DENY), (.ref wEffect_PERMIT)])) X2 hx rfl rfl rfl (pc0 := 27) (pc' := 32) (same := false) rfl (hb hby at_27) rfl (decide_eq_false fun q => ne_wEffect_PERMIT_wEffect_DENY (Value.ref.inj q)) (by decide) (by decide) ?_
    show Steps p.tables e below (T2.setTop (mkF m 32 #[.val (.int i0), .val (.ref wEffect_DENY), .val (.ref wEffect_PERMIT), .unset, .unset] [])) _
    refine XS.aloadN X2.here hx rfl (hb hby at_32) rfl rfl ?_
    show Steps p.tables e below (T2.setTop (mkF m 33 #[.val (.int i0), .val (.ref wEffect_DENY), .val (.ref wEffect_PERMIT), .unset, .unset] [(.ref wEffect_PERMIT)])) _
    refine st3.trans ?_
    show Steps p.tables e below (T3.setTop (mkF m 36 #[.val (.int i0), .val (.ref wEffect_DENY), .val (.ref wEffect_PERMIT), .unset, .unset] [(.ref wEffect_DENY)])) _
    refine XS.aloadN X3.here hx rfl (hb hby at_36) rfl rfl ?_
    show Steps p.tables e below (T3.setTop (mkF m 37 #[.val (.int i0), .val (.ref wEffect_DENY), .val (.ref wEffect_PERMIT), .unset, .unset] [(.ref wEffect_DENY), (.ref wEffect_DENY)])) _
    refine Jvm.RoadKit.acmp (g := (mkF m 37 #[.val (.int i0), .val (.ref wEffect_DENY), .val (.ref wEffect_PERMIT), .unset, .unset] [(.ref wEffect_DENY), (.ref wEffect_DENY)])) X3 hx rfl rfl rfl (pc0 := 37) (pc' := 42) (same := true) rfl (hb hby at_37) rfl (decide_eq_true rfl) (by decide) (by decide) ?_
    show Steps p.tables e below (T3.setTop (mkF m 42 #[.val (.int i0), .val (.ref wEffect_DENY), .val (.ref wEffect_PERMIT), .unset, .unset] [])) _
    refine XS.aloadN X3.here hx rfl (hb hby at_42) rfl rfl ?_
    show Steps p.tables e below (T3.setTop (mkF m 43 #[.val (.int i0), .val (.ref wEffect_DENY), .val (.ref wEffect_PERMIT), .unset, .unset] [(.ref wEffect_DENY)])) _
    refine st4.trans ?_
    show Steps p.tables e below (T4.setTop (mkF m 46 #[.val (.int i0), .val (.ref wEffect_DENY), .val (.ref wEffect_PERMIT), .unset, .unset] [(.ref wVerdict_DENY)])) _
    refine st5 _ ?_
    show Steps p.tables e below (T5.setTop (mkF m 49 #[.val (.int i0), .val (.ref wEffect_DENY), .val (.ref wEffect_PERMIT), .unset, .unset] [(.ref wVerdict_PERMIT), (.ref wVerdict_DENY)])) _
    refine Jvm.RoadKit.acmp (g := (mkF m 49 #[.val (.int i0), .val (.ref wEffect_DENY), .val (.ref wEffect_PERMIT), .unset, .unset] [(.ref wVerdict_PERMIT), (.ref wVerdict_DENY)])) X5 hx rfl rfl rfl (pc0 := 49) (pc' := 58) (same := false) rfl (hb hby at_49) rfl (decide_eq_false fun q => (Ne.symm ne_wVerdict_PERMIT_wVerdict_DENY) (Value.ref.inj q)) (by decide) (by decide) ?_
    show Steps p.tables e below (T5.setTop (mkF m 58 #[.val (.int i0), .val (.ref wEffect_DENY), .val (.ref wEffect_PERMIT), .unset, .unset] [])) _
    refine st6 _ ?_
    show Steps p.tables e below (T6.setTop (mkF m 61 #[.val (.int i0), .val (.ref wEffect_DENY), .val (.ref wEffect_PERMIT), .unset, .unset] [(.ref wVerdict_PERMIT)])) _
    refine XS.astoreN X6.here hx rfl (hb hby at_61) rfl rfl (l' := #[.val (.int i0), .val (.ref wEffect_DENY), .val (.ref wEffect_PERMIT), .val (.ref wVerdict_PERMIT), .unset]) rfl ?_
    show Steps p.tables e below (T6.setTop (mkF m 62 #[.val (.int i0), .val (.ref wEffect_DENY), .val (.ref wEffect_PERMIT), .val (.ref wVerdict_PERMIT), .unset] [])) _
    refine XS.aloadN X6.here hx rfl (hb hby at_62) rfl rfl ?_
    show Steps p.tables e below (T6.setTop (mkF m 63 #[.val (.int i0), .val (.ref wEffect_DENY), .val (.ref wEffect_PERMIT), .val (.ref wVerdict_PERMIT), .unset] [(.ref wEffect_DENY)])) _
    refine st7.trans ?_
    show Steps p.tables e below (T7.setTop (mkF m 66 #[.val (.int i0), .val (.ref wEffect_DENY), .val (.ref wEffect_PERMIT), .val (.ref wVerdict_PERMIT), .unset] [(.ref wVerdict_INDETERMINATE_D)])) _
    refine st8 _ ?_
    show Steps p.tables e below (T8.setTop (mkF m 69 #[.val (.int i0), .val (.ref wEffect_DENY), .val (.ref wEffect_PERMIT), .val (.ref wVerdict_PERMIT), .unset] [(.ref wVerdict_INDETERMINATE_P), (.ref wVerdict_INDETERMINATE_D)])) _
    refine Jvm.RoadKit.acmp (g := (mkF m 69 #[.val (.int i0), .val (.ref wEffect_DENY), .val (.ref wEffect_PERMIT), .val (.ref wVerdict_PERMIT), .unset] [(.ref wVerdict_INDETERMINATE_P), (.ref wVerdict_INDETERMINATE_D)])) X8 hx rfl rfl rfl (pc0 := 69) (pc' := 78) (same := false) rfl (hb hby at_69) rfl (decide_eq_false fun q => (Ne.symm ne_wVerdict_INDETERMINATE_P_wVerdict_INDETERMINATE_D) (Value.ref.inj q)) (by decide) (by decide) ?_
    show Steps p.tables e below (T8.setTop (mkF m 78 #[.val (.int i0), .val (.ref wEffect_DENY), .val (.ref wEffect_PERMIT), .val (.ref wVerdict_PERMIT), .unset] [])) _
    refine st9 _ ?_
    show Steps p.tables e below (T9.setTop (mkF m 81 #[.val (.int i0), .val (.ref wEffect_DENY), .val (.ref wEffect_PERMIT), .val (.ref wVerdict_PERMIT), .unset] [(.ref wVerdict_INDETERMINATE_P)])) _
    refine XS.astore X9.here hx rfl (hb hby at_81) rfl rfl (l' := #[.val (.int i0), .val (.ref wEffect_DENY), .val (.ref wEffect_PERMIT), .val (.ref wVerdict_PERMIT), .val (.ref wVerdict_INDETERMINATE_P)]) rfl ?_
    show Steps p.tables e below (T9.setTop (mkF m 83 #[.val (.int i0), .val (.ref wEffect_DENY), .val (.ref wEffect_PERMIT), .val (.ref wVerdict_PERMIT), .val (.ref wVerdict_INDETERMINATE_P)] [])) _
    refine XS.aloadN X9.here hx rfl (hb hby at_83) rfl rfl ?_
    show Steps p.tables e below (T9.setTop (mkF m 84 #[.val (.int i0), .val (.ref wEffect_DENY), .val (.ref wEffect_PERMIT), .val (.ref wVerdict_PERMIT), .val (.ref wVerdict_INDETERMINATE_P)] [(.ref wEffect_PERMIT)])) _
    refine st10.trans ?_
    show Steps p.tables e below (T10.setTop (mkF m 87 #[.val (.int i0), .val (.ref wEffect_DENY), .val (.ref wEffect_PERMIT), .val (.ref wVerdict_PERMIT), .val (.ref wVerdict_INDETERMINATE_P)] [(.ref wVerdict_PERMIT)])) _
    refine XS.aloadN X10.here hx rfl (hb hby at_87) rfl rfl ?_
    show Steps p.tables e below (T10.setTop (mkF m 88 #[.val (.int i0), .val (.ref wEffect_DENY), .val (.ref wEffect_PERMIT), .val (.ref wVerdict_PERMIT), .val (.ref wVerdict_INDETERMINATE_P)] [(.ref wVerdict_PERMIT), (.ref wVerdict_PERMIT)])) _
    refine Jvm.RoadKit.acmp (g := (mkF m 88 #[.val (.int i0), .val (.ref wEffect_DENY), .val (.ref wEffect_PERMIT), .val (.ref wVerdict_PERMIT), .val (.ref wVerdict_INDETERMINATE_P)] [(.ref wVerdict_PERMIT), (.ref wVerdict_PERMIT)])) X10 hx rfl rfl rfl (pc0 := 88) (pc' := 91) (same := true) rfl (hb hby at_88) rfl (decide_eq_true rfl) (by decide) (by decide) ?_
    show Steps p.tables e below (T10.setTop (mkF m 91 #[.val (.int i0), .val (.ref wEffect_DENY), .val (.ref wEffect_PERMIT), .val (.ref wVerdict_PERMIT), .val (.ref wVerdict_INDETERMINATE_P)] [])) _
    refine XS.aloadN X10.here hx rfl (hb hby at_91) rfl rfl ?_
    show Steps p.tables e below (T10.setTop (mkF m 92 #[.val (.int i0), .val (.ref wEffect_DENY), .val (.ref wEffect_PERMIT), .val (.ref wVerdict_PERMIT), .val (.ref wVerdict_INDETERMINATE_P)] [(.ref wEffect_PERMIT)])) _
    refine st11.trans ?_
    show Steps p.tables e below (T11.setTop (mkF m 95 #[.val (.int i0), .val (.ref wEffect_DENY), .val (.ref wEffect_PERMIT), .val (.ref wVerdict_PERMIT), .val (.ref wVerdict_INDETERMINATE_P)] [(.ref wVerdict_INDETERMINATE_P)])) _
    refine XS.aload X11.here hx rfl (hb hby at_95) rfl rfl ?_
    show Steps p.tables e below (T11.setTop (mkF m 97 #[.val (.int i0), .val (.ref wEffect_DENY), .val (.ref wEffect_PERMIT), .val (.ref wVerdict_PERMIT), .val (.ref wVerdict_INDETERMINATE_P)] [(.ref wVerdict_INDETERMINATE_P), (.ref wVerdict_INDETERMINATE_P)])) _
    refine Jvm.RoadKit.acmp (g := (mkF m 97 #[.val (.int i0), .val (.ref wEffect_DENY), .val (.ref wEffect_PERMIT), .val (.ref wVerdict_PERMIT), .val (.ref wVerdict_INDETERMINATE_P)] [(.ref wVerdict_INDETERMINATE_P), (.ref wVerdict_INDETERMINATE_P)])) X11 hx rfl rfl rfl (pc0 := 97) (pc' := 100) (same := true) rfl (hb hby at_97) rfl (decide_eq_true rfl) (by decide) (by decide) ?_
    show Steps p.tables e below (T11.setTop (mkF m 100 #[.val (.int i0), .val (.ref wEffect_DENY), .val (.ref wEffect_PERMIT), .val (.ref wVerdict_PERMIT), .val (.ref wVerdict_INDETERMINATE_P)] [])) _
    refine XS.iconst X11.here hx rfl (hb hby at_100) ?_
    show Steps p.tables e below (T11.setTop (mkF m 101 #[.val (.int i0), .val (.ref wEffect_DENY), .val (.ref wEffect_PERMIT), .val (.ref wVerdict_PERMIT), .val (.ref wVerdict_INDETERMINATE_P)] [(.int (1 : Int32))])) _
    refine XS.goto X11.here hx rfl (pc0 := 101) (pc' := 105) rfl (hb hby at_101) (by decide) (by decide) ?_
    show Steps p.tables e below (T11.setTop (mkF m 105 #[.val (.int i0), .val (.ref wEffect_DENY), .val (.ref wEffect_PERMIT), .val (.ref wVerdict_PERMIT), .val (.ref wVerdict_INDETERMINATE_P)] [(.int (1 : Int32))])) _
    exact retN X11 hx (t := .boolean) Bd.returns (by simp) (hb hby at_105) hr
  · exact ⟨rfl, N11, e11⟩
theorem own_r0 (l : Launch) (Z : State) (a0 : Array Value) (hw : ∀ d ∈ tables_1, d.before a0 Z = true) (ws : List Jvm.Cond) (wEffect_PERMIT : Addr) (wEffect_DENY : Addr) (wVerdict_PERMIT : Addr) (wVerdict_DENY : Addr) (wVerdict_INDETERMINATE_P : Addr) (wVerdict_INDETERMINATE_D : Addr) (h0 : Heap) (n0 : Nat) (Z0 : n0 ≤ h0.size) (F : own_W Z h0 wEffect_PERMIT wEffect_DENY wVerdict_PERMIT wVerdict_DENY wVerdict_INDETERMINATE_P wVerdict_INDETERMINATE_D) (i0 : Int32) :
    MetFree l x (head1 (Jvm.Cond.code x code maxLocals ret :: ws) room_1) (fun a U => a = #[(.int i0)] ∧ Z.Warmed39 U.vm ∧ U.heap = h0) (fun _ _ _ _ _ => True) (fun _ U o U' => ∃ v L, o = .returned v ∧ own_Q (.int (1 : Int32)) h0 n0 v U'.heap L ∧ FrameEnd U o U' L room_1.cells room_1.slots) := by
  rcases own_range1 i0 with ha | ha
  · exact own_r0_a0 l Z a0 hw ws wEffect_PERMIT wEffect_DENY wVerdict_PERMIT wVerdict_DENY wVerdict_INDETERMINATE_P wVerdict_INDETERMINATE_D h0 n0 Z0 F i0 ha
  · exact own_r0_a1 l Z a0 hw ws wEffect_PERMIT wEffect_DENY wVerdict_PERMIT wVerdict_DENY wVerdict_INDETERMINATE_P wVerdict_INDETERMINATE_D h0 n0 Z0 F i0 ha
set_option maxRecDepth 65536 in
set_option maxHeartbeats 40000000 in
theorem own_comes {Post : Tables → Env → Array Value → State → Outcome → State → Prop} (hpost : ∀ tb e args s v u, (limb_1_1.after args s (.returned v) u = true ∧ limb_1_2.after args s (.returned v) u = true ∧ True) → FrameEnd s (.returned v) u (Jvm.fieldLocs frame_1_writes args s ++ Jvm.arrayLocs frame_1_arrays args s ++ Jvm.staticLocs frame_1_statics s) 0 0 → Post tb e args s (.returned v) u) :
    ArmFor flags0 classFile x code maxLocals ret World_1 tables_1 room_1 Calls_1 rest_1 Pre_1 Post := by
  intro l hfl _ _ p e ha hc hk s m args below hf hA hF happ hP
  obtain ⟨hcalls, hrest, hpre⟩ := hP
  obtain ⟨-, -, -, hnamed, -, -, -, hat⟩ := (Spec.applies_iff hf).mp happ
  obtain ⟨hg, hn⟩ := and_e (Cond.before_iff.mp (show (Jvm.Cond.and given_1 narrow_1).before args s = true from hpre))
  obtain ⟨gl1, gr1⟩ := and_e hg
  obtain ⟨w0, rfl⟩ : ∃ w0 : Value, args = #[w0] := by
    have hs : args.size = 1 := by simpa [Cond.value, given_1] using gl1
    obtain ⟨L⟩ := args
    match L, hs with
    | [w0], _ => exact ⟨w0, rfl⟩
  have hw := fun d (hd : d ∈ tables_1) => atoms_spec (ws := Jvm.Cond.code x code maxLocals ret :: tables_1) hat d (List.mem_cons_of_mem _ hd)
  obtain ⟨i0, ei0⟩ := is_v gr1
  obtain rfl : w0 = (.int i0) := Option.some.inj ei0
  obtain ⟨nl1, nr1⟩ := and_e hn
  obtain ⟨nl2, nr2⟩ := and_e nr1
  obtain ⟨nl3, nr3⟩ := and_e nr2
  obtain ⟨nl4, nr4⟩ := and_e nr3
  obtain ⟨nl5, nr5⟩ := and_e nr4
  obtain ⟨nl6, nr6⟩ := and_e nr5
  obtain ⟨nl7, nr7⟩ := and_e nr6
  obtain ⟨nl8, nr8⟩ := and_e nr7
  obtain ⟨nl9, nr9⟩ := and_e nr8
  obtain ⟨nl10, nr10⟩ := and_e nr9
  obtain ⟨nl11, nr11⟩ := and_e nr10
  obtain ⟨nl12, nr12⟩ := and_e nr11
  obtain ⟨nl13, nr13⟩ := and_e nr12
  obtain ⟨nl14, nr14⟩ := and_e nr13
  obtain ⟨nl15, nr15⟩ := and_e nr14
  obtain ⟨wEffect_PERMIT, ev_wEffect_PERMIT⟩ := exa_v nl1
  have S_wEffect_PERMIT : Sta s s.heap "com/example/open_verdict/openverdict/Effect" "PERMIT" "Lcom/example/open_verdict/openverdict/Effect;" (.ref wEffect_PERMIT) := Sta.start ev_wEffect_PERMIT (Or.inr ⟨(hw _ (List.mem_of_getElem? (i := 1) rfl)), (hw _ (List.mem_of_getElem? (i := 2) rfl))⟩)
  have E_wEffect_PERMIT : Exa s s.heap wEffect_PERMIT "com/example/open_verdict/openverdict/Effect" := Exa.start ev_wEffect_PERMIT nl1
  obtain ⟨wEffect_DENY, ev_wEffect_DENY⟩ := exa_v nl2
  have S_wEffect_DENY : Sta s s.heap "com/example/open_verdict/openverdict/Effect" "DENY" "Lcom/example/open_verdict/openverdict/Effect;" (.ref wEffect_DENY) := Sta.start ev_wEffect_DENY (Or.inr ⟨(hw _ (List.mem_of_getElem? (i := 1) rfl)), (hw _ (List.mem_of_getElem? (i := 10) rfl))⟩)
  have E_wEffect_DENY : Exa s s.heap wEffect_DENY "com/example/open_verdict/openverdict/Effect" := Exa.start ev_wEffect_DENY nl2
  obtain ⟨wVerdict_PERMIT, ev_wVerdict_PERMIT⟩ := exa_v nl5
  have S_wVerdict_PERMIT : Sta s s.heap "com/example/open_verdict/openverdict/Verdict" "PERMIT" "Lcom/example/open_verdict/openverdict/Verdict;" (.ref wVerdict_PERMIT) := Sta.start ev_wVerdict_PERMIT (Or.inr ⟨(hw _ (List.mem_of_getElem? (i := 18) rfl)), (hw _ (List.mem_of_getElem? (i := 19) rfl))⟩)
  have E_wVerdict_PERMIT : Exa s s.heap wVerdict_PERMIT "com/example/open_verdict/openverdict/Verdict" := Exa.start ev_wVerdict_PERMIT nl5
  obtain ⟨wVerdict_DENY, ev_wVerdict_DENY⟩ := exa_v nl7
  have S_wVerdict_DENY : Sta s s.heap "com/example/open_verdict/openverdict/Verdict" "DENY" "Lcom/example/open_verdict/openverdict/Verdict;" (.ref wVerdict_DENY) := Sta.start ev_wVerdict_DENY (Or.inr ⟨(hw _ (List.mem_of_getElem? (i := 18) rfl)), (hw _ (List.mem_of_getElem? (i := 22) rfl))⟩)
  have E_wVerdict_DENY : Exa s s.heap wVerdict_DENY "com/example/open_verdict/openverdict/Verdict" := Exa.start ev_wVerdict_DENY nl7
  obtain ⟨wVerdict_INDETERMINATE_P, ev_wVerdict_INDETERMINATE_P⟩ := exa_v nl8
  have S_wVerdict_INDETERMINATE_P : Sta s s.heap "com/example/open_verdict/openverdict/Verdict" "INDETERMINATE_P" "Lcom/example/open_verdict/openverdict/Verdict;" (.ref wVerdict_INDETERMINATE_P) := Sta.start ev_wVerdict_INDETERMINATE_P (Or.inr ⟨(hw _ (List.mem_of_getElem? (i := 18) rfl)), (hw _ (List.mem_of_getElem? (i := 30) rfl))⟩)
  have E_wVerdict_INDETERMINATE_P : Exa s s.heap wVerdict_INDETERMINATE_P "com/example/open_verdict/openverdict/Verdict" := Exa.start ev_wVerdict_INDETERMINATE_P nl8
  obtain ⟨wVerdict_INDETERMINATE_D, ev_wVerdict_INDETERMINATE_D⟩ := exa_v nl10
  have S_wVerdict_INDETERMINATE_D : Sta s s.heap "com/example/open_verdict/openverdict/Verdict" "INDETERMINATE_D" "Lcom/example/open_verdict/openverdict/Verdict;" (.ref wVerdict_INDETERMINATE_D) := Sta.start ev_wVerdict_INDETERMINATE_D (Or.inr ⟨(hw _ (List.mem_of_getElem? (i := 18) rfl)), (hw _ (List.mem_of_getElem? (i := 33) rfl))⟩)
  have E_wVerdict_INDETERMINATE_D : Exa s s.heap wVerdict_INDETERMINATE_D "com/example/open_verdict/openverdict/Verdict" := Exa.start ev_wVerdict_INDETERMINATE_D nl10
  have F_wEffect_DENY_ordinal : Fld s s.heap wEffect_DENY "java/lang/Enum" "ordinal" "I" (.int (1 : Int32)) := Fld.start ((fld_at ev_wEffect_DENY).symm.trans (own_eqI nl3 rfl))
  have F_wEffect_PERMIT_ordinal : Fld s s.heap wEffect_PERMIT "java/lang/Enum" "ordinal" "I" (.int (0 : Int32)) := Fld.start ((fld_at ev_wEffect_PERMIT).symm.trans (own_eqI nl4 rfl))
  have F_wEffect_PERMIT_verdict : Fld s s.heap wEffect_PERMIT "com/example/open_verdict/openverdict/Effect" "verdict" "Lcom/example/open_verdict/openverdict/Verdict;" (.ref wVerdict_PERMIT) := Fld.start ((fld_at ev_wEffect_PERMIT).symm.trans (own_eqR nl6 ev_wVerdict_PERMIT))
  have F_wEffect_PERMIT_indeterminate : Fld s s.heap wEffect_PERMIT "com/example/open_verdict/openverdict/Effect" "indeterminate" "Lcom/example/open_verdict/openverdict/Verdict;" (.ref wVerdict_INDETERMINATE_P) := Fld.start ((fld_at ev_wEffect_PERMIT).symm.trans (own_eqR nl9 ev_wVerdict_INDETERMINATE_P))
  have F_wEffect_DENY_verdict : Fld s s.heap wEffect_DENY "com/example/open_verdict/openverdict/Effect" "verdict" "Lcom/example/open_verdict/openverdict/Verdict;" (.ref wVerdict_DENY) := Fld.start ((fld_at ev_wEffect_DENY).symm.trans (own_eqR nl11 ev_wVerdict_DENY))
  have F_wEffect_DENY_indeterminate : Fld s s.heap wEffect_DENY "com/example/open_verdict/openverdict/Effect" "indeterminate" "Lcom/example/open_verdict/openverdict/Verdict;" (.ref wVerdict_INDETERMINATE_D) := Fld.start ((fld_at ev_wEffect_DENY).symm.trans (own_eqR nl12 ev_wVerdict_INDETERMINATE_D))
  have F_wVerdict_DENY_ordinal : Fld s s.heap wVerdict_DENY "java/lang/Enum" "ordinal" "I" (.int (1 : Int32)) := Fld.start ((fld_at ev_wVerdict_DENY).symm.trans (own_eqI nl13 rfl))
  have F_wVerdict_PERMIT_ordinal : Fld s s.heap wVerdict_PERMIT "java/lang/Enum" "ordinal" "I" (.int (0 : Int32)) := Fld.start ((fld_at ev_wVerdict_PERMIT).symm.trans (own_eqI nl14 rfl))
  have F_wVerdict_INDETERMINATE_D_ordinal : Fld s s.heap wVerdict_INDETERMINATE_D "java/lang/Enum" "ordinal" "I" (.int (3 : Int32)) := Fld.start ((fld_at ev_wVerdict_INDETERMINATE_D).symm.trans (own_eqI nl15 rfl))
  have F_wVerdict_INDETERMINATE_P_ordinal : Fld s s.heap wVerdict_INDETERMINATE_P "java/lang/Enum" "ordinal" "I" (.int (4 : Int32)) := Fld.start ((fld_at ev_wVerdict_INDETERMINATE_P).symm.trans (own_eqI nr15 rfl))
  have ne_wEffect_PERMIT_wEffect_DENY : wEffect_PERMIT ≠ wEffect_DENY := own_ne F_wEffect_PERMIT_ordinal F_wEffect_DENY_ordinal (by simp)
  have ne_wVerdict_PERMIT_wVerdict_DENY : wVerdict_PERMIT ≠ wVerdict_DENY := own_ne F_wVerdict_PERMIT_ordinal F_wVerdict_DENY_ordinal (by simp)
  have ne_wVerdict_PERMIT_wVerdict_INDETERMINATE_P : wVerdict_PERMIT ≠ wVerdict_INDETERMINATE_P := own_ne F_wVerdict_PERMIT_ordinal F_wVerdict_INDETERMINATE_P_ordinal (by simp)
  have ne_wVerdict_PERMIT_wVerdict_INDETERMINATE_D : wVerdict_PERMIT ≠ wVerdict_INDETERMINATE_D := own_ne F_wVerdict_PERMIT_ordinal F_wVerdict_INDETERMINATE_D_ordinal (by simp)
  have ne_wVerdict_DENY_wVerdict_INDETERMINATE_P : wVerdict_DENY ≠ wVerdict_INDETERMINATE_P := own_ne F_wVerdict_DENY_ordinal F_wVerdict_INDETERMINATE_P_ordinal (by simp)
  have ne_wVerdict_DENY_wVerdict_INDETERMINATE_D : wVerdict_DENY ≠ wVerdict_INDETERMINATE_D := own_ne F_wVerdict_DENY_ordinal F_wVerdict_INDETERMINATE_D_ordinal (by simp)
  have ne_wVerdict_INDETERMINATE_P_wVerdict_INDETERMINATE_D : wVerdict_INDETERMINATE_P ≠ wVerdict_INDETERMINATE_D := own_ne F_wVerdict_INDETERMINATE_P_ordinal F_wVerdict_INDETERMINATE_D_ordinal (by simp)
  have F : own_W s s.heap wEffect_PERMIT wEffect_DENY wVerdict_PERMIT wVerdict_DENY wVerdict_INDETERMINATE_P wVerdict_INDETERMINATE_D := ⟨S_wEffect_PERMIT, E_wEffect_PERMIT, S_wEffect_DENY, E_wEffect_DENY, S_wVerdict_PERMIT, E_wVerdict_PERMIT, S_wVerdict_DENY, E_wVerdict_DENY, S_wVerdict_INDETERMINATE_P, E_wVerdict_INDETERMINATE_P, S_wVerdict_INDETERMINATE_D, E_wVerdict_INDETERMINATE_D, F_wEffect_DENY_ordinal, F_wEffect_PERMIT_ordinal, F_wEffect_PERMIT_verdict, F_wEffect_PERMIT_indeterminate, F_wEffect_DENY_verdict, F_wEffect_DENY_indeterminate, F_wVerdict_DENY_ordinal, F_wVerdict_PERMIT_ordinal, F_wVerdict_INDETERMINATE_D_ordinal, F_wVerdict_INDETERMINATE_P_ordinal, ne_wEffect_PERMIT_wEffect_DENY, ne_wVerdict_PERMIT_wVerdict_DENY, ne_wVerdict_PERMIT_wVerdict_INDETERMINATE_P, ne_wVerdict_PERMIT_wVerdict_INDETERMINATE_D, ne_wVerdict_DENY_wVerdict_INDETERMINATE_P, ne_wVerdict_DENY_wVerdict_INDETERMINATE_D, ne_wVerdict_INDETERMINATE_P_wVerdict_INDETERMINATE_D⟩
  obtain ⟨n, o, h1, h2, h3, _, L, rfl, ⟨rfl, N, -⟩, hq⟩ := own_r0 l s _ hw tables_1 wEffect_PERMIT wEffect_DENY wVerdict_PERMIT wVerdict_DENY wVerdict_INDETERMINATE_P wVerdict_INDETERMINATE_D s.heap s.heap.size (Nat.le_refl _) F i0 p e ha hc hk s m _ below hf ((Spec.applies_iff_loose hf).mp happ).1 ⟨rfl, State.Warmed39.refl s, rfl⟩ trivial
  refine ⟨n, _, h1, h2, h3, hpost _ _ _ _ _ _ ⟨Cond.after_iff.mpr rfl, Cond.after_iff.mpr (eq_i res_at (Term.int_eval (1)) rfl), trivial⟩ ⟨hq.1, hq.2.1, (hq.2.2.sift fun y hy => Or.inr (N y hy)).mono (by decide) (by decide)⟩⟩
theorem main_1_1 : Claimed_1_1 := own_comes fun _ _ _ _ _ _ h hF => ⟨h.1, hF⟩
theorem main_1_2 : Claimed_1_2 := own_comes fun _ _ _ _ _ _ h hF => ⟨h.2.1, hF⟩
end Jvm.Pilot.@@N@@
namespace Jvm.Pilot.@@N@@
open Jvm Jvm.ClassFile Sem Op Lib Jvm.Free Jvm.Stand Jvm.Pilot.@@N@@.Jvm.D
/-! MADE BY PROGRAM (witnessworld.py) out of the Statement's table words and the real class files: 11 classes; the members and pool entries that the words name. The judged class is class 1, her method 1. -/
namespace start1
open Jvm.ClassFile
def u (s : String) : CpInfo := .utf8 (stringToUtf16 s)
/-- a pool by its gaps: so many unusable entries, then the entry; so many at the end -/
def gap : Nat → List CpInfo → List CpInfo
  | 0, r => r
  | n + 1, r => .unusable :: gap n r
def poolList (es : List (Nat × CpInfo)) (last : Nat) : List CpInfo := es.foldr (fun e r => gap e.1 (e.2 :: r)) (gap last [])
def pool (es : List (Nat × CpInfo)) (last : Nat) : Array CpInfo := ⟨poolList es last⟩
def fileOf (pool : Array CpInfo) (this : Nat) (attrs : Array Attribute := #[]) (ms : Array MethodInfo := #[]) (fl : Nat := 33) (sup : Nat := 0) (ifs : Array Nat := #[]) (fds : Array FieldInfo := #[]) : ClassFile where
  minorVersion := 0
  majorVersion := 65
  constantPool := pool
  accessFlags := fl
  thisClass := this
  superClass := sup
  interfaces := ifs
  fields := fds
  methods := ms
  attributes := attrs
def plain (name : String) (sup : Option ClassId) : Class where
  name := name
  kind := .ordinary
  loader := none
  accessFlags := 33
  super := sup
  interfaces := #[]
  cf := none
  fields := #[]
  methods := #[]
  instanceTypes := #[]
  staticTypes := #[]
  resolved := #[]
  callSites := []
  init := .initialized
  statics := none
  mirror := none

def pool0 : Array CpInfo := pool [(5, u "<init>"), (0, u "()V"), (1, .class_ 10), (1, u "java/lang/Object")] 113

def k0m0 : Method := { name := "<init>", desc := "()V", sig := { parameters := [], returnType := none }, accessFlags := 1, code := none }
/-- java/lang/Object -/
def k0 : Class := { plain "java/lang/Object" none with
  accessFlags := 33
  interfaces := #[]
  cf := some (fileOf pool0 8 #[] #[{ accessFlags := 1, nameIndex := 5, descriptorIndex := 6, attributes := #[] }] 33 0 #[] #[])
  fields := #[]
  methods := #[k0m0]
  instanceTypes := #[]
  staticTypes := #[]
  resolved := Array.replicate 124 none
  statics := none }

def pool1 : Array CpInfo := pool [(2, .class_ 4), (1, u "java/lang/Object"), (0, u "<init>"), (0, u "()V"), (0, .fieldref 8 9), (0, .class_ 10), (0, .nameAndType 11 12), (0, u "com/example/open_verdict/openverdict/Effect"), (0, u "PERMIT"), (0, u "Lcom/example/open_verdict/openverdict/Effect;"), (0, .fieldref 8 14), (0, .nameAndType 15 12), (0, u "DENY"), (0, .methodref 8 17), (0, .nameAndType 18 19), (0, u "opposite"), (0, u "()Lcom/example/open_verdict/openverdict/Effect;"), (0, .methodref 8 21), (0, .nameAndType 22 23), (0, u "verdict"), (0, u "()Lcom/example/open_verdict/openverdict/Verdict;"), (0, .fieldref 25 26), (0, .class_ 27), (0, .nameAndType 11 28), (0, u "com/example/open_verdict/openverdict/Verdict"), (0, u "Lcom/example/open_verdict/openverdict/Verdict;"), (0, .fieldref 25 30), (0, .nameAndType 15 28), (0, .methodref 8 32), (0, .nameAndType 33 23), (0, u "indeterminate"), (0, .fieldref 25 35), (0, .nameAndType 36 28), (0, u "INDETERMINATE_P"), (0, .fieldref 25 38), (0, .nameAndType 39 28), (0, u "INDETERMINATE_D"), (0, .class_ 41), (0, u "com/example/open_verdict/openverdict/EffectOppositePinLaw"), (2, u "law"), (0, u "(I)Z")] 3

def k1m0 : Method := { name := "<init>", desc := "()V", sig := { parameters := [], returnType := none }, accessFlags := 1, code := none }
def k1c1 : Code := { maxStack := 2, maxLocals := 5, code := code, exceptionTable := #[], attributes := #[] }
def k1m1 : Method := { name := "law", desc := "(I)Z", sig := { parameters := [.int], returnType := some .boolean }, accessFlags := 9, code := some k1c1 }
/-- com/example/open_verdict/openverdict/EffectOppositePinLaw -/
def k1 : Class := { plain "com/example/open_verdict/openverdict/EffectOppositePinLaw" (some 0) with
  accessFlags := 49
  interfaces := #[]
  cf := some (fileOf pool1 40 #[] #[{ accessFlags := 1, nameIndex := 5, descriptorIndex := 6, attributes := #[] }, { accessFlags := 9, nameIndex := 44, descriptorIndex := 45, attributes := #[] }] 49 2 #[] #[])
  fields := #[]
  methods := #[k1m0, k1m1]
  instanceTypes := #[]
  staticTypes := #[]
  resolved := Array.replicate 49 none
  statics := none }

def pool2 : Array CpInfo := pool [(1, .class_ 2), (0, u "java/lang/constant/Constable"), (0, .class_ 4), (0, u "java/lang/Object")] 6

/-- java/lang/constant/Constable -/
def k2 : Class := { plain "java/lang/constant/Constable" (some 0) with
  accessFlags := 1537
  interfaces := #[]
  cf := some (fileOf pool2 1 #[] #[] 1537 3 #[] #[])
  fields := #[]
  methods := #[]
  instanceTypes := #[]
  staticTypes := #[]
  resolved := Array.replicate 11 none
  statics := none }

def pool3 : Array CpInfo := pool [(1, .class_ 2), (0, u "java/lang/Comparable"), (0, .class_ 4), (0, u "java/lang/Object")] 7

/-- java/lang/Comparable -/
def k3 : Class := { plain "java/lang/Comparable" (some 0) with
  accessFlags := 1537
  interfaces := #[]
  cf := some (fileOf pool3 1 #[] #[] 1537 3 #[] #[])
  fields := #[]
  methods := #[]
  instanceTypes := #[]
  staticTypes := #[]
  resolved := Array.replicate 12 none
  statics := none }

def pool4 : Array CpInfo := pool [(1, .class_ 2), (0, u "java/io/Serializable"), (0, .class_ 4), (0, u "java/lang/Object")] 2

/-- java/io/Serializable -/
def k4 : Class := { plain "java/io/Serializable" (some 0) with
  accessFlags := 1537
  interfaces := #[]
  cf := some (fileOf pool4 1 #[] #[] 1537 3 #[] #[])
  fields := #[]
  methods := #[]
  instanceTypes := #[]
  staticTypes := #[]
  resolved := Array.replicate 7 none
  statics := none }

def pool5 : Array CpInfo := pool [(2, .class_ 4), (1, u "java/lang/Enum"), (0, u "name"), (0, u "Ljava/lang/String;"), (2, u "ordinal"), (0, u "I"), (1, .class_ 14), (1, u "java/lang/Object"), (4, u "hash"), (86, .class_ 108), (1, u "java/lang/Enum$EnumDesc"), (2, .class_ 112), (0, u "java/lang/constant/Constable"), (0, .class_ 114), (0, u "java/lang/Comparable"), (0, .class_ 116), (0, u "java/io/Serializable")] 87

/-- java/lang/Enum -/
def k5 : Class := { plain "java/lang/Enum" (some 0) with
  accessFlags := 1057
  interfaces := #[2, 3, 4]
  cf := some (fileOf pool5 2 #[.nestMembers #[106]] #[] 1057 12 #[111, 113, 115] #[{ accessFlags := 18, nameIndex := 5, descriptorIndex := 6, attributes := #[] }, { accessFlags := 18, nameIndex := 9, descriptorIndex := 10, attributes := #[] }, { accessFlags := 2, nameIndex := 19, descriptorIndex := 10, attributes := #[] }])
  fields := #[{ name := "name", type := (.object "java/lang/String"), accessFlags := 18, slot := 0, constantValue := 0 }, { name := "ordinal", type := .int, accessFlags := 18, slot := 1, constantValue := 0 }, { name := "hash", type := .int, accessFlags := 2, slot := 2, constantValue := 0 }]
  methods := #[]
  instanceTypes := #[(.object "java/lang/String"), .int, .int]
  staticTypes := #[]
  resolved := Array.replicate 204 none
  statics := none }

def pool6 : Array CpInfo := pool [(1, .class_ 2), (0, u "com/example/open_verdict/openverdict/Effect"), (0, .fieldref 1 4), (0, .nameAndType 5 6), (0, u "PERMIT"), (0, u "Lcom/example/open_verdict/openverdict/Effect;"), (0, .fieldref 1 8), (0, .nameAndType 9 6), (0, u "DENY"), (2, u "$VALUES"), (0, u "[Lcom/example/open_verdict/openverdict/Effect;"), (6, .class_ 22), (1, u "java/lang/Enum"), (8, u "keyword"), (0, u "Ljava/lang/String;"), (0, .fieldref 1 34), (0, .nameAndType 35 36), (0, u "verdict"), (0, u "Lcom/example/open_verdict/openverdict/Verdict;"), (0, .fieldref 1 38), (0, .nameAndType 39 36), (0, u "indeterminate"), (33, u "()Lcom/example/open_verdict/openverdict/Verdict;"), (0, u "opposite"), (0, u "()Lcom/example/open_verdict/openverdict/Effect;")] 6

def k6c0 : Code := { maxStack := 1, maxLocals := 1, code := prog_7_method_5_code, exceptionTable := #[], attributes := #[] }
def k6m0 : Method := { name := "verdict", desc := "()Lcom/example/open_verdict/openverdict/Verdict;", sig := { parameters := [], returnType := some (.object "com/example/open_verdict/openverdict/Verdict") }, accessFlags := 0, code := some k6c0 }
def k6c1 : Code := { maxStack := 1, maxLocals := 1, code := prog_7_method_6_code, exceptionTable := #[], attributes := #[] }
def k6m1 : Method := { name := "indeterminate", desc := "()Lcom/example/open_verdict/openverdict/Verdict;", sig := { parameters := [], returnType := some (.object "com/example/open_verdict/openverdict/Verdict") }, accessFlags := 0, code := some k6c1 }
def k6c2 : Code := { maxStack := 2, maxLocals := 1, code := prog_7_method_7_code, exceptionTable := #[], attributes := #[] }
def k6m2 : Method := { name := "opposite", desc := "()Lcom/example/open_verdict/openverdict/Effect;", sig := { parameters := [], returnType := some (.object "com/example/open_verdict/openverdict/Effect") }, accessFlags := 0, code := some k6c2 }
/-- com/example/open_verdict/openverdict/Effect -/
def k6 : Class := { plain "com/example/open_verdict/openverdict/Effect" (some 5) with
  accessFlags := 16432
  interfaces := #[]
  cf := some (fileOf pool6 1 #[] #[{ accessFlags := 0, nameIndex := 35, descriptorIndex := 73, attributes := #[] }, { accessFlags := 0, nameIndex := 39, descriptorIndex := 73, attributes := #[] }, { accessFlags := 0, nameIndex := 74, descriptorIndex := 75, attributes := #[] }] 16432 20 #[] #[{ accessFlags := 16409, nameIndex := 5, descriptorIndex := 6, attributes := #[] }, { accessFlags := 16409, nameIndex := 9, descriptorIndex := 6, attributes := #[] }, { accessFlags := 18, nameIndex := 31, descriptorIndex := 32, attributes := #[] }, { accessFlags := 18, nameIndex := 35, descriptorIndex := 36, attributes := #[] }, { accessFlags := 18, nameIndex := 39, descriptorIndex := 36, attributes := #[] }, { accessFlags := 4122, nameIndex := 12, descriptorIndex := 13, attributes := #[] }])
  fields := #[{ name := "PERMIT", type := (.object "com/example/open_verdict/openverdict/Effect"), accessFlags := 16409, slot := 0, constantValue := 0 }, { name := "DENY", type := (.object "com/example/open_verdict/openverdict/Effect"), accessFlags := 16409, slot := 1, constantValue := 0 }, { name := "keyword", type := (.object "java/lang/String"), accessFlags := 18, slot := 3, constantValue := 0 }, { name := "verdict", type := (.object "com/example/open_verdict/openverdict/Verdict"), accessFlags := 18, slot := 4, constantValue := 0 }, { name := "indeterminate", type := (.object "com/example/open_verdict/openverdict/Verdict"), accessFlags := 18, slot := 5, constantValue := 0 }, { name := "$VALUES", type := (.array (.object "com/example/open_verdict/openverdict/Effect")), accessFlags := 4122, slot := 2, constantValue := 0 }]
  methods := #[k6m0, k6m1, k6m2]
  instanceTypes := #[(.object "java/lang/String"), .int, .int, (.object "java/lang/String"), (.object "com/example/open_verdict/openverdict/Verdict"), (.object "com/example/open_verdict/openverdict/Verdict")]
  staticTypes := #[(.object "com/example/open_verdict/openverdict/Effect"), (.object "com/example/open_verdict/openverdict/Effect"), (.array (.object "com/example/open_verdict/openverdict/Effect"))]
  resolved := Array.replicate 82 none
  statics := some 0 }

def pool7 : Array CpInfo := pool [(1, .class_ 2), (0, u "com/example/open_verdict/openverdict/Verdict"), (2, u "PERMIT"), (0, u "Lcom/example/open_verdict/openverdict/Verdict;"), (2, u "DENY"), (2, u "NOT_APPLICABLE"), (2, u "INDETERMINATE_D"), (2, u "INDETERMINATE_P"), (2, u "INDETERMINATE_DP"), (2, u "$VALUES"), (0, u "[Lcom/example/open_verdict/openverdict/Verdict;"), (6, .class_ 34), (1, u "java/lang/Enum"), (8, u "text"), (0, u "Ljava/lang/String;")] 39

/-- com/example/open_verdict/openverdict/Verdict -/
def k7 : Class := { plain "com/example/open_verdict/openverdict/Verdict" (some 5) with
  accessFlags := 16433
  interfaces := #[]
  cf := some (fileOf pool7 1 #[] #[] 16433 32 #[] #[{ accessFlags := 16409, nameIndex := 5, descriptorIndex := 6, attributes := #[] }, { accessFlags := 16409, nameIndex := 9, descriptorIndex := 6, attributes := #[] }, { accessFlags := 16409, nameIndex := 12, descriptorIndex := 6, attributes := #[] }, { accessFlags := 16409, nameIndex := 15, descriptorIndex := 6, attributes := #[] }, { accessFlags := 16409, nameIndex := 18, descriptorIndex := 6, attributes := #[] }, { accessFlags := 16409, nameIndex := 21, descriptorIndex := 6, attributes := #[] }, { accessFlags := 18, nameIndex := 43, descriptorIndex := 44, attributes := #[] }, { accessFlags := 4122, nameIndex := 24, descriptorIndex := 25, attributes := #[] }])
  fields := #[{ name := "PERMIT", type := (.object "com/example/open_verdict/openverdict/Verdict"), accessFlags := 16409, slot := 0, constantValue := 0 }, { name := "DENY", type := (.object "com/example/open_verdict/openverdict/Verdict"), accessFlags := 16409, slot := 1, constantValue := 0 }, { name := "NOT_APPLICABLE", type := (.object "com/example/open_verdict/openverdict/Verdict"), accessFlags := 16409, slot := 2, constantValue := 0 }, { name := "INDETERMINATE_D", type := (.object "com/example/open_verdict/openverdict/Verdict"), accessFlags := 16409, slot := 3, constantValue := 0 }, { name := "INDETERMINATE_P", type := (.object "com/example/open_verdict/openverdict/Verdict"), accessFlags := 16409, slot := 4, constantValue := 0 }, { name := "INDETERMINATE_DP", type := (.object "com/example/open_verdict/openverdict/Verdict"), accessFlags := 16409, slot := 5, constantValue := 0 }, { name := "text", type := (.object "java/lang/String"), accessFlags := 18, slot := 3, constantValue := 0 }, { name := "$VALUES", type := (.array (.object "com/example/open_verdict/openverdict/Verdict")), accessFlags := 4122, slot := 6, constantValue := 0 }]
  methods := #[]
  instanceTypes := #[(.object "java/lang/String"), .int, .int, (.object "java/lang/String")]
  staticTypes := #[(.object "com/example/open_verdict/openverdict/Verdict"), (.object "com/example/open_verdict/openverdict/Verdict"), (.object "com/example/open_verdict/openverdict/Verdict"), (.object "com/example/open_verdict/openverdict/Verdict"), (.object "com/example/open_verdict/openverdict/Verdict"), (.object "com/example/open_verdict/openverdict/Verdict"), (.array (.object "com/example/open_verdict/openverdict/Verdict"))]
  resolved := Array.replicate 84 none
  statics := some 1 }

def pool8 : Array CpInfo := pool [(1, u "java/lang/Cloneable"), (0, .class_ 1), (0, u "java/lang/Object"), (0, .class_ 3)] 3

/-- java/lang/Cloneable -/
def k8 : Class := { plain "java/lang/Cloneable" (some 0) with
  accessFlags := 1537
  interfaces := #[]
  cf := some (fileOf pool8 2 #[] #[] 1537 4 #[] #[])
  fields := #[]
  methods := #[]
  instanceTypes := #[]
  staticTypes := #[]
  resolved := Array.replicate 8 none
  statics := none }

/-- the primitive byte -/
def k9 : Class := { plain "byte" none with kind := .primitive 'B', accessFlags := 0x411 }
/-- [B -/
def k10 : Class := { plain "[B" (some 0) with kind := .array 9 .byte, interfaces := #[8, 4], accessFlags := 1041 }

def heap : Heap := #[{ cls := 6, slots := #[.ref 6, .ref 7, .null], vm := .statics 6 },
  { cls := 7, slots := #[.ref 2, .ref 3, .null, .ref 4, .ref 5, .null, .null], vm := .statics 7 },
  { cls := 7, slots := #[.null, .int 0, .int 0, .null], vm := .none },
  { cls := 7, slots := #[.null, .int 1, .int 0, .null], vm := .none },
  { cls := 7, slots := #[.null, .int 3, .int 0, .null], vm := .none },
  { cls := 7, slots := #[.null, .int 4, .int 0, .null], vm := .none },
  { cls := 6, slots := #[.null, .int 0, .int 0, .null, .ref 2, .ref 5], vm := .none },
  { cls := 6, slots := #[.null, .int 1, .int 0, .null, .ref 3, .ref 4], vm := .none }]
def classes : Array Class := #[k0, k1, k2, k3, k4, k5, k6, k7, k8, k9, k10]
def interned : List (Array UInt16 × Addr) := []
def slotsUsed : Nat := 38
def theMethod : MethodId := ⟨1, 1⟩
def args0 : Array Value := #[.int 3]
def aboutOver (below : List Frame) : State where
  vm := { classes := classes, interned := interned.toArray }
  heap := heap
  slotsUsed := slotsUsed
  threads := #[{ frames := .invoking theMethod args0 :: below }]
def below0 : List Frame := [.native { method := ⟨0, 0⟩, args := #[] }]
def about1 : State := aboutOver below0
def p0 : Program := .bare "" "" ""
def e0 : Env := launch0.env 0 0 0
theorem w_frames : about1.frames = Frame.invoking theMethod args0 :: below0 := rfl
set_option maxRecDepth 65536 in
theorem w_args : argsFit about1.vm theMethod args0 = true := by decide +kernel
set_option maxRecDepth 65536 in
theorem w_heap : heapFits about1 = true := by decide +kernel
set_option maxRecDepth 65536 in
theorem w_runnable : about1.curStatus? = some .runnable := by decide +kernel
set_option maxRecDepth 65536 in
theorem w_alone : about1.alone = true := by decide +kernel
set_option maxRecDepth 65536 in
theorem w_named : about1.methodNamed? x = some theMethod := by decide +kernel
set_option maxRecDepth 65536 in
theorem w_hears : about1.hears theMethod below0 = true := by decide +kernel
set_option maxRecDepth 65536 in
theorem w_ripe : about1.ripe theMethod args0 below0 = true := by decide +kernel
theorem w_running : about1.status = .running := rfl
set_option maxRecDepth 65536 in
theorem w_room : about1.hasRoom e0.platform room_1 = true :=
  launch0.hasRoom_least _ room_1 (by decide +kernel) (by decide +kernel) (by decide +kernel) (by decide +kernel) (by decide +kernel) (by decide +kernel)
theorem allAtoms_all (ts : List Jvm.Cond) (a : Array Jvm.Value) (st : Jvm.State) : (allAtoms ts).before a st = ts.all (fun c => c.before a st) := by
  induction ts with
  | nil => rfl
  | cons c t ih =>
    show (Jvm.Cond.and c (allAtoms t)).before a st = _
    rw [Jvm.Cond.before_and, ih, List.all_cons]
def words1 : List Jvm.Cond := Jvm.Cond.code x code maxLocals ret :: tables_1
/-- a 'code' word, met by the world's own term for the bytes: nothing is compared byte by byte -/
theorem code_word {y : MethodName} {bytes : ByteArray} {mx : Nat} {rt : Option FieldType} {a : Array Value} {s : State} {m : MethodId} {meth : Method} {c : Code} (h1 : s.methodNamed? y = some m) (h2 : s.vm.method? m = some meth) (h3 : meth.code = some c) (h4 : c.code = bytes)
    (h5 : (c.maxLocals == mx && c.exceptionTable.isEmpty && decide (c.maxStack ≤ mostOperands) && decide (meth.sig.returnType = rt) && !meth.locks && decide (parseMethodDescriptor y.desc = some meth.sig)) = true) : (Jvm.Cond.code y bytes mx rt).before a s = true := by
  simp only [Bool.and_eq_true, beq_iff_eq, Bool.not_eq_true', decide_eq_true_eq] at h5
  obtain ⟨⟨⟨⟨⟨g1, g2⟩, g3⟩, g4⟩, g5⟩, g6⟩ := h5
  simp [Cond.before, Cond.holds, Cond.value, h1, h2, h3, h4, g1, g2, g3, g4, g5, g6]
def isCode : Jvm.Cond → Bool
  | .code _ _ _ _ => true
  | _ => false
theorem all_split {L : List Jvm.Cond} {P : Jvm.Cond → Bool} (h1 : L.all (fun c => isCode c || P c) = true) (h2 : ∀ c ∈ L.filter isCode, P c = true) : L.all P = true := by
  refine List.all_eq_true.mpr fun c hc => ?_
  have h := List.all_eq_true.mp h1 c hc
  rcases Bool.eq_false_or_eq_true (isCode c) with hi | hi
  · exact h2 c (List.mem_filter.mpr ⟨hc, hi⟩)
  · simpa [hi] using h
set_option maxRecDepth 65536 in
theorem w_c0 : (Jvm.Cond.code x code maxLocals ret).before args0 about1 = true := code_word (m := ⟨1, 1⟩) (meth := k1m1) (c := k1c1) (by decide +kernel) rfl rfl rfl (by decide +kernel)
set_option maxRecDepth 65536 in
theorem w_c1 : (Jvm.Cond.code ({ cls := "com/example/open_verdict/openverdict/Effect", name := "opposite", desc := "()Lcom/example/open_verdict/openverdict/Effect;" } : Jvm.MethodName) prog_7_method_7_code (1 : Nat) (Option.some (Jvm.ClassFile.FieldType.object "com/example/open_verdict/openverdict/Effect"))).before args0 about1 = true := code_word (m := ⟨6, 2⟩) (meth := k6m2) (c := k6c2) (by decide +kernel) rfl rfl rfl (by decide +kernel)
set_option maxRecDepth 65536 in
theorem w_c2 : (Jvm.Cond.code ({ cls := "com/example/open_verdict/openverdict/Effect", name := "verdict", desc := "()Lcom/example/open_verdict/openverdict/Verdict;" } : Jvm.MethodName) prog_7_method_5_code (1 : Nat) (Option.some (Jvm.ClassFile.FieldType.object "com/example/open_verdict/openverdict/Verdict"))).before args0 about1 = true := code_word (m := ⟨6, 0⟩) (meth := k6m0) (c := k6c0) (by decide +kernel) rfl rfl rfl (by decide +kernel)
set_option maxRecDepth 65536 in
theorem w_c3 : (Jvm.Cond.code ({ cls := "com/example/open_verdict/openverdict/Effect", name := "indeterminate", desc := "()Lcom/example/open_verdict/openverdict/Verdict;" } : Jvm.MethodName) prog_7_method_6_code (1 : Nat) (Option.some (Jvm.ClassFile.FieldType.object "com/example/open_verdict/openverdict/Verdict"))).before args0 about1 = true := code_word (m := ⟨6, 1⟩) (meth := k6m1) (c := k6c1) (by decide +kernel) rfl rfl rfl (by decide +kernel)
def codes1 : List Jvm.Cond := [Jvm.Cond.code x code maxLocals ret, Jvm.Cond.code ({ cls := "com/example/open_verdict/openverdict/Effect", name := "opposite", desc := "()Lcom/example/open_verdict/openverdict/Effect;" } : Jvm.MethodName) prog_7_method_7_code (1 : Nat) (Option.some (Jvm.ClassFile.FieldType.object "com/example/open_verdict/openverdict/Effect")), Jvm.Cond.code ({ cls := "com/example/open_verdict/openverdict/Effect", name := "verdict", desc := "()Lcom/example/open_verdict/openverdict/Verdict;" } : Jvm.MethodName) prog_7_method_5_code (1 : Nat) (Option.some (Jvm.ClassFile.FieldType.object "com/example/open_verdict/openverdict/Verdict")), Jvm.Cond.code ({ cls := "com/example/open_verdict/openverdict/Effect", name := "indeterminate", desc := "()Lcom/example/open_verdict/openverdict/Verdict;" } : Jvm.MethodName) prog_7_method_6_code (1 : Nat) (Option.some (Jvm.ClassFile.FieldType.object "com/example/open_verdict/openverdict/Verdict"))]
set_option maxRecDepth 65536 in
theorem codes_eq : words1.filter isCode = codes1 := rfl
theorem w_codes : ∀ c ∈ words1.filter isCode, c.before args0 about1 = true := by
  rw [codes_eq]
  intro c hc
  simp only [codes1, List.mem_cons, List.not_mem_nil, or_false] at hc
  rcases hc with rfl | rfl | rfl | rfl
  · exact w_c0
  · exact w_c1
  · exact w_c2
  · exact w_c3
set_option maxRecDepth 65536 in
theorem w_t1 : (words1.take 24).all (fun c => isCode c || c.before args0 about1) = true := by decide +kernel
set_option maxRecDepth 65536 in
theorem w_t2 : (words1.drop 24).all (fun c => isCode c || c.before args0 about1) = true := by decide +kernel
theorem w_tables : (allAtoms (Jvm.Cond.code x code maxLocals ret :: tables_1)).before args0 about1 = true := by
  rw [allAtoms_all]
  show words1.all (fun c => c.before args0 about1) = true
  refine all_split ?_ w_codes
  rw [← List.take_append_drop 24 words1, List.all_append, w_t1, w_t2]
  rfl
set_option maxRecDepth 65536 in
theorem w_case : (Jvm.Cond.and given_1 narrow_1).before args0 about1 = true := by decide +kernel
theorem w_applies : (headSpec (Jvm.Cond.code x code maxLocals ret :: tables_1) room_1).applies x e0.platform about1 = true :=
  (Spec.applies_iff w_frames).mpr ⟨w_running, w_runnable, w_alone, w_named, w_hears, w_ripe, w_room, w_tables⟩
theorem atStart : AtStart classFile x code maxLocals ret World_1 tables_1 room_1 Calls_1 rest_1 Pre_1 launch0 p0 e0 about1 theMethod args0 below0 :=
  ⟨lists_1, trivial, launch0.admits_env _ _ _, launch0.least_env, fairChoices_fair.cas, fairChoices_fair.clock, w_frames, w_args, w_heap, w_applies, trivial, trivial, w_case⟩
end start1
theorem witness_1 : WitnessClaimed_1 := ⟨start1.p0, start1.e0, start1.about1, start1.theMethod, start1.args0, start1.below0, start1.atStart⟩
end Jvm.Pilot.@@N@@
