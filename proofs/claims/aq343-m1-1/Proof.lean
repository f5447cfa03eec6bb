import JvmDerived
import JvmDerived.Pilot.@@N@@Statement
import JvmDerived.Pilot.@@N@@Code
set_option linter.unusedVariables false
set_option linter.unusedSimpArgs false
namespace Jvm.RoadKit
open Sem ClassFile Op Lib Jvm.Stand Jvm.Free Jvm.LawKit
section New
variable {p : Program} {l : Launch} {e : Env} {R : Room} {s : State} {m : MethodId} {args : Array Value} {below : List Frame} {meth : Method} {c : Code} {T : State} {locs : List Loc} {cells slots : Nat}
theorem retI (X : Stand p l e R s m args below meth c T locs cells slots) (hx : p.tables.exec = Jvm.exec) {pc : Nat} {Ls : Array Slot} {z : Int32} {rest : List Value} (hret : meth.sig.returnType = some .int) (hd : decode c.code pc = .ok (.ireturn, 1)) {fs : List Frame}
    (hl : ∀ (f : JFrame) (acts : List Action), f.method = m → f.locked = none → f.entered = [] → (doReturn e (T.setTop f) acts (some (.int z))).1 = T.setFrames fs) : Steps p.tables e below (T.setTop (mkF m pc Ls (.int z :: rest))) (T.setFrames fs) := by
  have hm' : T.vm.method? m = some meth := X.method'
  have hn : narrow .int (.int z) = .int z := rfl
  show Steps p.tables e below (T.setTop { method := m, pc := pc, locals := Ls, stack := _ :: rest, locked := none }) _
  jvm_step X.here [X.here.top, hx, hd, hm', hret, hn]
  first | (intro acts; rw [hl _ acts rfl rfl rfl]) | rw [hl _ _ rfl rfl rfl]
  exact Steps.refl _
end New
end Jvm.RoadKit
namespace Jvm.Pilot.@@N@@
open Jvm Jvm.ClassFile Sem Op Lib Jvm.Free Jvm.Stand Jvm.LawKit Jvm.RoadKit Bundle Jvm.Pilot.@@N@@.Jvm.D
/-! the case's words as plain facts -/
theorem own_eqI {args : Array Value} {first s : State} {o : Option Outcome} {idx : List Nat} {a b : Term} {z : Int32} (h : (Jvm.Cond.eq a b).value args first o s idx = some true) (hb : b.eval args first o idx s = some (.int z)) : a.eval args first o idx s = some (.int z) := by
  cases ha : a.eval args first o idx s with
  | none => simp [Cond.value, ha] at h
  | some x => cases x <;> simp [Cond.value, ha, hb] at h ⊢; exact h
theorem own_eqR {args : Array Value} {first s : State} {o : Option Outcome} {idx : List Nat} {a b : Term} {z : Addr} (h : (Jvm.Cond.eq a b).value args first o s idx = some true) (hb : b.eval args first o idx s = some (.ref z)) : a.eval args first o idx s = some (.ref z) := by
  cases ha : a.eval args first o idx s with
  | none => simp [Cond.value, ha] at h
  | some x => cases x <;> simp [Cond.value, ha, hb] at h ⊢; exact h
theorem own_ne {Z : State} {h : Heap} {a b : Addr} {C n d : String} {v w : Value} (F : Fld Z h a C n d v) (G : Fld Z h b C n d w) (hne : v ≠ w) : a ≠ b := fun e => by
  subst e
  obtain ⟨c1, cf1, k1, i1, f1, a1, a2, -, -, -, -, a7⟩ := F
  obtain ⟨c2, cf2, k2, i2, f2, b1, b2, -, -, -, -, b7⟩ := G
  cases a1.symm.trans b1
  cases a2.symm.trans b2
  exact hne (Option.some.inj (a7.symm.trans b7))
def own_W (Z : State) (h : Heap) (wJavaType_STRING : Addr) (wAttributeType_NUMBER : Addr) (wJavaType_LONG : Addr) (wAttributeType_STRING : Addr) (wJavaType_INTEGER : Addr) (wJavaType_BIG_DECIMAL : Addr) : Prop := (Sta Z h "com/example/hesiod/hesiod/dynamodb/JavaType" "STRING" "Lcom/example/hesiod/hesiod/dynamodb/JavaType;" (.ref wJavaType_STRING)) ∧ (Exa Z h wJavaType_STRING "com/example/hesiod/hesiod/dynamodb/JavaType") ∧ (Sta Z h "com/example/hesiod/hesiod/model/AttributeType" "NUMBER" "Lcom/example/hesiod/hesiod/model/AttributeType;" (.ref wAttributeType_NUMBER)) ∧ (Exa Z h wAttributeType_NUMBER "com/example/hesiod/hesiod/model/AttributeType") ∧ (Sta Z h "com/example/hesiod/hesiod/dynamodb/JavaType" "LONG" "Lcom/example/hesiod/hesiod/dynamodb/JavaType;" (.ref wJavaType_LONG)) ∧ (Exa Z h wJavaType_LONG "com/example/hesiod/hesiod/dynamodb/JavaType") ∧ (Sta Z h "com/example/hesiod/hesiod/model/AttributeType" "STRING" "Lcom/example/hesiod/hesiod/model/AttributeType;" (.ref wAttributeType_STRING)) ∧ (Exa Z h wAttributeType_STRING "com/example/hesiod/hesiod/model/AttributeType") ∧ (Sta Z h "com/example/hesiod/hesiod/dynamodb/JavaType" "INTEGER" "Lcom/example/hesiod/hesiod/dynamodb/JavaType;" (.ref wJavaType_INTEGER)) ∧ (Exa Z h wJavaType_INTEGER "com/example/hesiod/hesiod/dynamodb/JavaType") ∧ (Sta Z h "com/example/hesiod/hesiod/dynamodb/JavaType" "BIG_DECIMAL" "Lcom/example/hesiod/hesiod/dynamodb/JavaType;" (.ref wJavaType_BIG_DECIMAL)) ∧ (Exa Z h wJavaType_BIG_DECIMAL "com/example/hesiod/hesiod/dynamodb/JavaType") ∧ (Fld Z h wJavaType_LONG "java/lang/Enum" "ordinal" "I" (.int (2 : Int32))) ∧ (Fld Z h wJavaType_STRING "java/lang/Enum" "ordinal" "I" (.int (0 : Int32))) ∧ (Fld Z h wJavaType_INTEGER "java/lang/Enum" "ordinal" "I" (.int (1 : Int32))) ∧ (Fld Z h wAttributeType_STRING "java/lang/Enum" "ordinal" "I" (.int (0 : Int32))) ∧ (Fld Z h wAttributeType_NUMBER "java/lang/Enum" "ordinal" "I" (.int (1 : Int32))) ∧ (Fld Z h wJavaType_BIG_DECIMAL "java/lang/Enum" "ordinal" "I" (.int (3 : Int32))) ∧ (wJavaType_STRING ≠ wJavaType_LONG) ∧ (wJavaType_STRING ≠ wJavaType_INTEGER) ∧ (wJavaType_STRING ≠ wJavaType_BIG_DECIMAL) ∧ (wAttributeType_NUMBER ≠ wAttributeType_STRING) ∧ (wJavaType_LONG ≠ wJavaType_INTEGER) ∧ (wJavaType_LONG ≠ wJavaType_BIG_DECIMAL) ∧ (wJavaType_INTEGER ≠ wJavaType_BIG_DECIMAL)
def own_Q (w : Value) (h0 : Heap) (n0 : Nat) (v : Option Value) (h : Heap) (L : List Loc) : Prop := v = some w ∧ Fr n0 L ∧ h = h0
theorem own_range3 (x : Int32) : (x &&& (3 : Int32)) = 0 ∨ (x &&& (3 : Int32)) = 1 ∨ (x &&& (3 : Int32)) = 2 ∨ (x &&& (3 : Int32)) = 3 := by
  have h1 := c_mask x 3 2 (by decide) (by decide)
  generalize (x &&& (3 : Int32)) = k at h1 ⊢
  have a0 : (0 : Int32).toInt = 0 := by decide
  have a1 : (1 : Int32).toInt = 1 := by decide
  have a2 : (2 : Int32).toInt = 2 := by decide
  have a3 : (3 : Int32).toInt = 3 := by decide
  simp only [← Int32.toInt_inj, a0, a1, a2, a3]
  omega
theorem own_range1 (x : Int32) : (x &&& (1 : Int32)) = 0 ∨ (x &&& (1 : Int32)) = 1 := by
  have h1 := c_mask x 1 1 (by decide) (by decide)
  generalize (x &&& (1 : Int32)) = k at h1 ⊢
  have a0 : (0 : Int32).toInt = 0 := by decide
  have a1 : (1 : Int32).toInt = 1 := by decide
  simp only [← Int32.toInt_inj, a0, a1]
  omega
theorem own_ef0_II (m : MethodId) (x0 : Int32) (x1 : Int32) : entryFrame m #[(.int x0), (.int x1)] maxLocals = mkF m 0 #[.val (.int x0), .val (.int x1), .unset, .unset, .unset, .unset, .unset, .unset, .unset] [] := by first | (simp [entryFrame, mkF, argsToLocals, Value.category, maxLocals]; done) | rfl
theorem own_ef1_RR (m : MethodId) (x0 : Addr) (x1 : Addr) : entryFrame m #[(.ref x0), (.ref x1)] 2 = mkF m 0 #[.val (.ref x0), .val (.ref x1)] [] := by first | (simp [entryFrame, mkF, argsToLocals, Value.category]; done) | rfl
theorem own_d1_0 : decode prog_3_method_5_code 0 = .ok (.aload_n 0, 1) := by decide +kernel
theorem own_d1_1 : decode prog_3_method_5_code 1 = .ok (.getstatic 3, 3) := by decide +kernel
theorem own_d1_4 : decode prog_3_method_5_code 4 = .ok (.if_acmp .eq 10, 3) := by decide +kernel
theorem own_d1_14 : decode prog_3_method_5_code 14 = .ok (.iconst 1, 1) := by decide +kernel
theorem own_d1_15 : decode prog_3_method_5_code 15 = .ok (.goto 4, 3) := by decide +kernel
theorem own_d1_19 : decode prog_3_method_5_code 19 = .ok (.ireturn, 1) := by decide +kernel
theorem own_pn_JavaType : plainName "com/example/hesiod/hesiod/dynamodb/JavaType" = true := by first | (simp [plainName, overriddenIn]; done) | decide +kernel
set_option maxRecDepth 65536 in
set_option maxHeartbeats 40000000 in
theorem own_r1_2 (l : Launch) (Z : State) (a0 : Array Value) (hw : ∀ d ∈ tables_1, d.before a0 Z = true) (ws : List Jvm.Cond) (wJavaType_STRING : Addr) (wAttributeType_NUMBER : Addr) (wJavaType_LONG : Addr) (wAttributeType_STRING : Addr) (wJavaType_INTEGER : Addr) (wJavaType_BIG_DECIMAL : Addr) (h0 : Heap) (n0 : Nat) (Z0 : n0 ≤ h0.size) (F : own_W Z h0 wJavaType_STRING wAttributeType_NUMBER wJavaType_LONG wAttributeType_STRING wJavaType_INTEGER wJavaType_BIG_DECIMAL)   :
    MetFree l (⟨"com/example/hesiod/hesiod/dynamodb/JavaType", "holds", "(Lcom/example/hesiod/hesiod/model/AttributeType;)Z"⟩ : MethodName) (head1 (Jvm.Cond.code (⟨"com/example/hesiod/hesiod/dynamodb/JavaType", "holds", "(Lcom/example/hesiod/hesiod/model/AttributeType;)Z"⟩ : MethodName) prog_3_method_5_code 2 (some .boolean) :: ws) ({ frames := 0, cells := 0, slots := 0, locals := 0 } : Room)) (fun a U => a = #[(.ref wJavaType_STRING), (.ref wAttributeType_STRING)] ∧ Z.Warmed39 U.vm ∧ U.heap = h0) (fun _ _ _ _ _ => True) (fun _ U o U' => ∃ v L, o = .returned v ∧ own_Q (.int (1 : Int32)) h0 n0 v U'.heap L ∧ FrameEnd U o U' L ({ frames := 0, cells := 0, slots := 0, locals := 0 } : Room).cells ({ frames := 0, cells := 0, slots := 0, locals := 0 } : Room).slots) := by
  obtain ⟨S_wJavaType_STRING, E_wJavaType_STRING, S_wAttributeType_NUMBER, E_wAttributeType_NUMBER, S_wJavaType_LONG, E_wJavaType_LONG, S_wAttributeType_STRING, E_wAttributeType_STRING, S_wJavaType_INTEGER, E_wJavaType_INTEGER, S_wJavaType_BIG_DECIMAL, E_wJavaType_BIG_DECIMAL, F_wJavaType_LONG_ordinal, F_wJavaType_STRING_ordinal, F_wJavaType_INTEGER_ordinal, F_wAttributeType_STRING_ordinal, F_wAttributeType_NUMBER_ordinal, F_wJavaType_BIG_DECIMAL_ordinal, ne_wJavaType_STRING_wJavaType_LONG, ne_wJavaType_STRING_wJavaType_INTEGER, ne_wJavaType_STRING_wJavaType_BIG_DECIMAL, ne_wAttributeType_NUMBER_wAttributeType_STRING, ne_wJavaType_LONG_wJavaType_INTEGER, ne_wJavaType_LONG_wJavaType_BIG_DECIMAL, ne_wJavaType_INTEGER_wJavaType_BIG_DECIMAL⟩ := id F
  refine MetFree.of_bodySF (plainFor_of_name own_pn_JavaType) hisR ?_
  intro p e s m args below meth c s₁ Bd hml0 hP hK
  obtain ⟨rfl, hZ, hh⟩ := hP
  have hx := Bd.exec
  have hby := Bd.bytes
  have hml : c.maxLocals = 2 := hml0
  have hown : s.vm.findClass "com/example/hesiod/hesiod/dynamodb/JavaType" = some m.cls := findClass_of_methodNamed Bd.named
  have X0 : Stand p l e ({ frames := 0, cells := 0, slots := 0, locals := 0 } : Room) s m #[(.ref wJavaType_STRING), (.ref wAttributeType_STRING)] below meth c s₁ [] 0 0 := Stand.of_body Bd
  have e0 : s₁.heap = h0 := by rw [← hh, Bd.state]; rfl
  have N0 := Fr.nil n0
  have pre0 : ∀ t, Steps p.tables e below (s₁.setTop (mkF m 0 #[.val (.ref wJavaType_STRING), .val (.ref wAttributeType_STRING)] [])) t → Steps p.tables e below (s₁.setTop (entryFrame m #[(.ref wJavaType_STRING), (.ref wAttributeType_STRING)] 2)) t := fun t k => castTop (own_ef1_RR m wJavaType_STRING wAttributeType_STRING) k
  obtain ⟨T1, X1, e1, st1⟩ := getS2 X0 hx hZ hown (host := "") (Or.inl (hw _ (List.mem_of_getElem? (i := 11) rfl))) Via.refl e0 S_wJavaType_STRING (g := (mkF m 1 #[.val (.ref wJavaType_STRING), .val (.ref wAttributeType_STRING)] [(.ref wJavaType_STRING)])) rfl (hb hby own_d1_1)
  obtain ⟨fs, hr, hrun, hended, hW, hsame⟩ := X1.leave (v := some (.int (1 : Int32))) (fun h => by rw [Bd.returns] at h; cases h)
  refine ⟨_, _, pre0 _ ?_, hrun, hended, _, _, rfl, ?_, ⟨_, rfl⟩, hW, hsame.mono (by decide) (by decide)⟩
  · show Steps p.tables e below (s₁.setTop (mkF m 0 #[.val (.ref wJavaType_STRING), .val (.ref wAttributeType_STRING)] [])) _
    refine XS.aloadN X0.here hx rfl (hb hby own_d1_0) rfl rfl ?_
    show Steps p.tables e below (s₁.setTop (mkF m 1 #[.val (.ref wJavaType_STRING), .val (.ref wAttributeType_STRING)] [(.ref wJavaType_STRING)])) _
    refine st1 _ ?_
    show Steps p.tables e below (T1.setTop (mkF m 4 #[.val (.ref wJavaType_STRING), .val (.ref wAttributeType_STRING)] [(.ref wJavaType_STRING), (.ref wJavaType_STRING)])) _
    refine Jvm.RoadKit.acmp (g := (mkF m 4 #[.val (.ref wJavaType_STRING), .val (.ref wAttributeType_STRING)] [(.ref wJavaType_STRING), (.ref wJavaType_STRING)])) X1 hx rfl rfl rfl (pc0 := 4) (pc' := 14) (same := true) rfl (hb hby own_d1_4) rfl (decide_eq_true rfl) (by decide) (by decide) ?_
    show Steps p.tables e below (T1.setTop (mkF m 14 #[.val (.ref wJavaType_STRING), .val (.ref wAttributeType_STRING)] [])) _
    refine XS.iconst X1.here hx rfl (hb hby own_d1_14) ?_
    show Steps p.tables e below (T1.setTop (mkF m 15 #[.val (.ref wJavaType_STRING), .val (.ref wAttributeType_STRING)] [(.int (1 : Int32))])) _
    refine XS.goto X1.here hx rfl (pc0 := 15) (pc' := 19) rfl (hb hby own_d1_15) (by decide) (by decide) ?_
    show Steps p.tables e below (T1.setTop (mkF m 19 #[.val (.ref wJavaType_STRING), .val (.ref wAttributeType_STRING)] [(.int (1 : Int32))])) _
    exact retN X1 hx (t := .boolean) Bd.returns (by simp) (hb hby own_d1_19) hr
  · exact ⟨rfl, N0, e1⟩
theorem own_pd0 : parseMethodDescriptor "(Lcom/example/hesiod/hesiod/model/AttributeType;)Z" = some ⟨[(.object "com/example/hesiod/hesiod/model/AttributeType")], some .boolean⟩ := by decide +kernel
theorem own_pn_JavaTypeHoldsPinLaw : plainName "com/example/hesiod/hesiod/dynamodb/JavaTypeHoldsPinLaw" = true := by first | (simp [plainName, overriddenIn]; done) | decide +kernel
set_option maxRecDepth 65536 in
set_option maxHeartbeats 40000000 in
theorem own_r0_t0a0 (l : Launch) (Z : State) (a0 : Array Value) (hw : ∀ d ∈ tables_1, d.before a0 Z = true) (ws : List Jvm.Cond) (wJavaType_STRING : Addr) (wAttributeType_NUMBER : Addr) (wJavaType_LONG : Addr) (wAttributeType_STRING : Addr) (wJavaType_INTEGER : Addr) (wJavaType_BIG_DECIMAL : Addr) (h0 : Heap) (n0 : Nat) (Z0 : n0 ≤ h0.size) (F : own_W Z h0 wJavaType_STRING wAttributeType_NUMBER wJavaType_LONG wAttributeType_STRING wJavaType_INTEGER wJavaType_BIG_DECIMAL) (i0 : Int32) (i1 : Int32) (ht : (i0 &&& (3 : Int32)) = (0 : Int32)) (ha : (i1 &&& (1 : Int32)) = (0 : Int32)) :
    MetFree l x (head1 (Jvm.Cond.code x code maxLocals ret :: ws) room_1) (fun a U => a = #[(.int i0), (.int i1)] ∧ Z.Warmed39 U.vm ∧ U.heap = h0) (fun _ _ _ _ _ => True) (fun _ U o U' => ∃ v L, o = .returned v ∧ own_Q (.int (1 : Int32)) h0 n0 v U'.heap L ∧ FrameEnd U o U' L room_1.cells room_1.slots) := by
  obtain ⟨S_wJavaType_STRING, E_wJavaType_STRING, S_wAttributeType_NUMBER, E_wAttributeType_NUMBER, S_wJavaType_LONG, E_wJavaType_LONG, S_wAttributeType_STRING, E_wAttributeType_STRING, S_wJavaType_INTEGER, E_wJavaType_INTEGER, S_wJavaType_BIG_DECIMAL, E_wJavaType_BIG_DECIMAL, F_wJavaType_LONG_ordinal, F_wJavaType_STRING_ordinal, F_wJavaType_INTEGER_ordinal, F_wAttributeType_STRING_ordinal, F_wAttributeType_NUMBER_ordinal, F_wJavaType_BIG_DECIMAL_ordinal, ne_wJavaType_STRING_wJavaType_LONG, ne_wJavaType_STRING_wJavaType_INTEGER, ne_wJavaType_STRING_wJavaType_BIG_DECIMAL, ne_wAttributeType_NUMBER_wAttributeType_STRING, ne_wJavaType_LONG_wJavaType_INTEGER, ne_wJavaType_LONG_wJavaType_BIG_DECIMAL, ne_wJavaType_INTEGER_wJavaType_BIG_DECIMAL⟩ := id F
  refine MetFree.of_bodySF (plainFor_of_name own_pn_JavaTypeHoldsPinLaw) hisR ?_
  intro p e s m args below meth c s₁ Bd hml0 hP hK
  obtain ⟨rfl, hZ, hh⟩ := hP
  have hx := Bd.exec
  have hby := Bd.bytes
  have hml : c.maxLocals = 9 := hml0
  have hown : s.vm.findClass "com/example/hesiod/hesiod/dynamodb/JavaTypeHoldsPinLaw" = some m.cls := findClass_of_methodNamed Bd.named
  have X0 : Stand p l e room_1 s m #[(.int i0), (.int i1)] below meth c s₁ [] 0 0 := Stand.of_body Bd
  have e0 : s₁.heap = h0 := by rw [← hh, Bd.state]; rfl
  have N0 := Fr.nil n0
  have pre0 : ∀ t, Steps p.tables e below (s₁.setTop (mkF m 0 #[.val (.int i0), .val (.int i1), .unset, .unset, .unset, .unset, .unset, .unset, .unset] [])) t → Steps p.tables e below (s₁.setTop (entryFrame m #[(.int i0), (.int i1)] maxLocals)) t := fun t k => castTop (own_ef0_II m i0 i1) k
  obtain ⟨T1, X1, e1, st1⟩ := getS2 X0 hx hZ hown (host := "") (Or.inl (hw _ (List.mem_of_getElem? (i := 0) rfl))) Via.refl e0 S_wJavaType_STRING (g := (mkF m 12 #[.val (.int i0), .val (.int i1), .val (.int (0 : Int32)), .val (.int (0 : Int32)), .unset, .unset, .unset, .unset, .unset] [])) rfl (hb hby at_12)
  obtain ⟨T2, X2, e2, st2⟩ := getS2 X1 hx hZ hown (host := "") (Or.inl (hw _ (List.mem_of_getElem? (i := 15) rfl))) Via.refl e1 S_wAttributeType_STRING (g := (mkF m 79 #[.val (.int i0), .val (.int i1), .val (.int (0 : Int32)), .val (.int (0 : Int32)), .val (.ref wJavaType_STRING), .val (.int (1 : Int32)), .val (.int (1 : Int32)), .unset, .unset] [])) rfl (hb hby at_79)
  obtain ⟨cq3, kq3, q3a, q3b, q3c⟩ := isOf hZ e2 E_wJavaType_STRING
  obtain ⟨_, _, ⟨T3, L3, k3, n3⟩, -, X3, ⟨Lc3, hQ3, l3, y3, z3⟩, st3⟩ := X2.virtualBack hx (y := (⟨"com/example/hesiod/hesiod/dynamodb/JavaType", "holds", "(Lcom/example/hesiod/hesiod/model/AttributeType;)Z"⟩ : MethodName)) (z := (⟨"com/example/hesiod/hesiod/dynamodb/JavaType", "holds", "(Lcom/example/hesiod/hesiod/model/AttributeType;)Z"⟩ : MethodName)) hown (mvT hZ (hw _ (List.mem_of_getElem? (i := 6) rfl))) (mvT hZ (hw _ (List.mem_of_getElem? (i := 7) rfl))) (notFace_of_selects (args := #[]) (mvT hZ (hw _ (List.mem_of_getElem? (i := 9) rfl)))) (mvT hZ (hw _ (List.mem_of_getElem? (i := 9) rfl))) (mvT hZ (hw _ (List.mem_of_getElem? (i := 8) rfl))) (by decide) (backOf (W := 0) (own_r1_2 l Z a0 hw [] wJavaType_STRING wAttributeType_NUMBER wJavaType_LONG wAttributeType_STRING wJavaType_INTEGER wJavaType_BIG_DECIMAL h0 n0 Z0 F ) hZ (hw _ (List.mem_of_getElem? (i := 10) rfl)) (hw _ (List.mem_of_getElem? (i := 1) rfl)) (by decide) (by decide)) q3a q3c (g := (mkF m 104 #[.val (.int i0), .val (.int i1), .val (.int (0 : Int32)), .val (.int (0 : Int32)), .val (.ref wJavaType_STRING), .val (.int (1 : Int32)), .val (.int (1 : Int32)), .val (.ref wAttributeType_STRING), .val (.int (1 : Int32))] [(.ref wAttributeType_STRING), (.ref wJavaType_STRING)])) rfl (by rw [hml]; rfl) (Steps.refl _) (argsL := [(.ref wAttributeType_STRING)]) (rest := []) (lenOf own_pd0 rfl) rfl (by show 2 * 0 + _ ≤ _; exact Nat.le_of_eq rfl) (hb hby at_104) (fun _ _ => ⟨rfl, e2, (by decide : 0 + 0 ≤ _), (by decide : 0 + 0 ≤ _)⟩)
  dsimp only [Pt.U, Pt.locs, Pt.cells, Pt.slots] at X3 l3 y3 z3 st3 hQ3
  subst l3 y3 z3
  obtain ⟨rfl, N3q, e3⟩ := hQ3
  have N3 := Fr.app N0 N3q
  obtain ⟨fs, hr, hrun, hended, hW, hsame⟩ := X3.leave (v := some (.int (1 : Int32))) (fun h => by rw [Bd.returns] at h; cases h)
  refine ⟨_, _, pre0 _ ?_, hrun, hended, _, _, rfl, ?_, ⟨_, rfl⟩, hW, hsame.mono (by decide) (by decide)⟩
  · show Steps p.tables e below (s₁.setTop (mkF m 0 #[.val (.int i0), .val (.int i1), .unset, .unset, .unset, .unset, .unset, .unset, .unset] [])) _
    refine XS.iloadN X0.here hx rfl (hb hby at_0) rfl ?_
    show Steps p.tables e below (s₁.setTop (mkF m 1 #[.val (.int i0), .val (.int i1), .unset, .unset, .unset, .unset, .unset, .unset, .unset] [(.int i0)])) _
    refine XS.iconst X0.here hx rfl (hb hby at_1) ?_
    show Steps p.tables e below (s₁.setTop (mkF m 2 #[.val (.int i0), .val (.int i1), .unset, .unset, .unset, .unset, .unset, .unset, .unset] [(.int (3 : Int32)), (.int i0)])) _
    refine XS.iand X0.here hx rfl (hb hby at_2) rfl ?_
    show Steps p.tables e below (s₁.setTop (mkF m 3 #[.val (.int i0), .val (.int i1), .unset, .unset, .unset, .unset, .unset, .unset, .unset] [(.int (i0 &&& (3 : Int32)))])) _
    rw [ht]
    show Steps p.tables e below (s₁.setTop (mkF m 3 #[.val (.int i0), .val (.int i1), .unset, .unset, .unset, .unset, .unset, .unset, .unset] [(.int (0 : Int32))])) _
    refine XS.istoreN X0.here hx rfl (hb hby at_3) rfl (l' := #[.val (.int i0), .val (.int i1), .val (.int (0 : Int32)), .unset, .unset, .unset, .unset, .unset, .unset]) rfl ?_
    show Steps p.tables e below (s₁.setTop (mkF m 4 #[.val (.int i0), .val (.int i1), .val (.int (0 : Int32)), .unset, .unset, .unset, .unset, .unset, .unset] [])) _
    refine XS.iloadN X0.here hx rfl (hb hby at_4) rfl ?_
    show Steps p.tables e below (s₁.setTop (mkF m 5 #[.val (.int i0), .val (.int i1), .val (.int (0 : Int32)), .unset, .unset, .unset, .unset, .unset, .unset] [(.int i1)])) _
    refine XS.iconst X0.here hx rfl (hb hby at_5) ?_
    show Steps p.tables e below (s₁.setTop (mkF m 6 #[.val (.int i0), .val (.int i1), .val (.int (0 : Int32)), .unset, .unset, .unset, .unset, .unset, .unset] [(.int (1 : Int32)), (.int i1)])) _
    refine XS.iand X0.here hx rfl (hb hby at_6) rfl ?_
    show Steps p.tables e below (s₁.setTop (mkF m 7 #[.val (.int i0), .val (.int i1), .val (.int (0 : Int32)), .unset, .unset, .unset, .unset, .unset, .unset] [(.int (i1 &&& (1 : Int32)))])) _
    rw [ha]
    show Steps p.tables e below (s₁.setTop (mkF m 7 #[.val (.int i0), .val (.int i1), .val (.int (0 : Int32)), .unset, .unset, .unset, .unset, .unset, .unset] [(.int (0 : Int32))])) _
    refine XS.istoreN X0.here hx rfl (hb hby at_7) rfl (l' := #[.val (.int i0), .val (.int i1), .val (.int (0 : Int32)), .val (.int (0 : Int32)), .unset, .unset, .unset, .unset, .unset]) rfl ?_
    show Steps p.tables e below (s₁.setTop (mkF m 8 #[.val (.int i0), .val (.int i1), .val (.int (0 : Int32)), .val (.int (0 : Int32)), .unset, .unset, .unset, .unset, .unset] [])) _
    refine XS.iloadN X0.here hx rfl (hb hby at_8) rfl ?_
    show Steps p.tables e below (s₁.setTop (mkF m 9 #[.val (.int i0), .val (.int i1), .val (.int (0 : Int32)), .val (.int (0 : Int32)), .unset, .unset, .unset, .unset, .unset] [(.int (0 : Int32))])) _
    refine XS.ifNo X0.here hx rfl (hb hby at_9) rfl ((if0 _ _).trans (teq (by decide : (0 : Int32) = (0 : Int32))).2) ?_
    show Steps p.tables e below (s₁.setTop (mkF m 12 #[.val (.int i0), .val (.int i1), .val (.int (0 : Int32)), .val (.int (0 : Int32)), .unset, .unset, .unset, .unset, .unset] [])) _
    refine st1 _ ?_
    show Steps p.tables e below (T1.setTop (mkF m 15 #[.val (.int i0), .val (.int i1), .val (.int (0 : Int32)), .val (.int (0 : Int32)), .unset, .unset, .unset, .unset, .unset] [(.ref wJavaType_STRING)])) _
    refine XS.astore X1.here hx rfl (hb hby at_15) rfl rfl (l' := #[.val (.int i0), .val (.int i1), .val (.int (0 : Int32)), .val (.int (0 : Int32)), .val (.ref wJavaType_STRING), .unset, .unset, .unset, .unset]) rfl ?_
    show Steps p.tables e below (T1.setTop (mkF m 17 #[.val (.int i0), .val (.int i1), .val (.int (0 : Int32)), .val (.int (0 : Int32)), .val (.ref wJavaType_STRING), .unset, .unset, .unset, .unset] [])) _
    refine XS.iconst X1.here hx rfl (hb hby at_17) ?_
    show Steps p.tables e below (T1.setTop (mkF m 18 #[.val (.int i0), .val (.int i1), .val (.int (0 : Int32)), .val (.int (0 : Int32)), .val (.ref wJavaType_STRING), .unset, .unset, .unset, .unset] [(.int (1 : Int32))])) _
    refine XS.istore X1.here hx rfl (hb hby at_18) rfl (l' := #[.val (.int i0), .val (.int i1), .val (.int (0 : Int32)), .val (.int (0 : Int32)), .val (.ref wJavaType_STRING), .val (.int (1 : Int32)), .unset, .unset, .unset]) rfl ?_
    show Steps p.tables e below (T1.setTop (mkF m 20 #[.val (.int i0), .val (.int i1), .val (.int (0 : Int32)), .val (.int (0 : Int32)), .val (.ref wJavaType_STRING), .val (.int (1 : Int32)), .unset, .unset, .unset] [])) _
    refine XS.iconst X1.here hx rfl (hb hby at_20) ?_
    show Steps p.tables e below (T1.setTop (mkF m 21 #[.val (.int i0), .val (.int i1), .val (.int (0 : Int32)), .val (.int (0 : Int32)), .val (.ref wJavaType_STRING), .val (.int (1 : Int32)), .unset, .unset, .unset] [(.int (1 : Int32))])) _
    refine XS.istore X1.here hx rfl (hb hby at_21) rfl (l' := #[.val (.int i0), .val (.int i1), .val (.int (0 : Int32)), .val (.int (0 : Int32)), .val (.ref wJavaType_STRING), .val (.int (1 : Int32)), .val (.int (1 : Int32)), .unset, .unset]) rfl ?_
    show Steps p.tables e below (T1.setTop (mkF m 23 #[.val (.int i0), .val (.int i1), .val (.int (0 : Int32)), .val (.int (0 : Int32)), .val (.ref wJavaType_STRING), .val (.int (1 : Int32)), .val (.int (1 : Int32)), .unset, .unset] [])) _
    refine XS.goto X1.here hx rfl (pc0 := 23) (pc' := 75) rfl (hb hby at_23) (by decide) (by decide) ?_
    show Steps p.tables e below (T1.setTop (mkF m 75 #[.val (.int i0), .val (.int i1), .val (.int (0 : Int32)), .val (.int (0 : Int32)), .val (.ref wJavaType_STRING), .val (.int (1 : Int32)), .val (.int (1 : Int32)), .unset, .unset] [])) _
    refine XS.iloadN X1.here hx rfl (hb hby at_75) rfl ?_
    show Steps p.tables e below (T1.setTop (mkF m 76 #[.val (.int i0), .val (.int i1), .val (.int (0 : Int32)), .val (.int (0 : Int32)), .val (.ref wJavaType_STRING), .val (.int (1 : Int32)), .val (.int (1 : Int32)), .unset, .unset] [(.int (0 : Int32))])) _
    refine XS.ifNo X1.here hx rfl (hb hby at_76) rfl ((if0 _ _).trans (teq (by decide : (0 : Int32) = (0 : Int32))).2) ?_
    show Steps p.tables e below (T1.setTop (mkF m 79 #[.val (.int i0), .val (.int i1), .val (.int (0 : Int32)), .val (.int (0 : Int32)), .val (.ref wJavaType_STRING), .val (.int (1 : Int32)), .val (.int (1 : Int32)), .unset, .unset] [])) _
    refine st2 _ ?_
    show Steps p.tables e below (T2.setTop (mkF m 82 #[.val (.int i0), .val (.int i1), .val (.int (0 : Int32)), .val (.int (0 : Int32)), .val (.ref wJavaType_STRING), .val (.int (1 : Int32)), .val (.int (1 : Int32)), .unset, .unset] [(.ref wAttributeType_STRING)])) _
    refine XS.astore X2.here hx rfl (hb hby at_82) rfl rfl (l' := #[.val (.int i0), .val (.int i1), .val (.int (0 : Int32)), .val (.int (0 : Int32)), .val (.ref wJavaType_STRING), .val (.int (1 : Int32)), .val (.int (1 : Int32)), .val (.ref wAttributeType_STRING), .unset]) rfl ?_
    show Steps p.tables e below (T2.setTop (mkF m 84 #[.val (.int i0), .val (.int i1), .val (.int (0 : Int32)), .val (.int (0 : Int32)), .val (.ref wJavaType_STRING), .val (.int (1 : Int32)), .val (.int (1 : Int32)), .val (.ref wAttributeType_STRING), .unset] [])) _
    refine XS.iload X2.here hx rfl (hb hby at_84) rfl ?_
    show Steps p.tables e below (T2.setTop (mkF m 86 #[.val (.int i0), .val (.int i1), .val (.int (0 : Int32)), .val (.int (0 : Int32)), .val (.ref wJavaType_STRING), .val (.int (1 : Int32)), .val (.int (1 : Int32)), .val (.ref wAttributeType_STRING), .unset] [(.int (1 : Int32))])) _
    refine XS.istore X2.here hx rfl (hb hby at_86) rfl (l' := #[.val (.int i0), .val (.int i1), .val (.int (0 : Int32)), .val (.int (0 : Int32)), .val (.ref wJavaType_STRING), .val (.int (1 : Int32)), .val (.int (1 : Int32)), .val (.ref wAttributeType_STRING), .val (.int (1 : Int32))]) rfl ?_
    show Steps p.tables e below (T2.setTop (mkF m 88 #[.val (.int i0), .val (.int i1), .val (.int (0 : Int32)), .val (.int (0 : Int32)), .val (.ref wJavaType_STRING), .val (.int (1 : Int32)), .val (.int (1 : Int32)), .val (.ref wAttributeType_STRING), .val (.int (1 : Int32))] [])) _
    refine XS.goto X2.here hx rfl (pc0 := 88) (pc' := 100) rfl (hb hby at_88) (by decide) (by decide) ?_
    show Steps p.tables e below (T2.setTop (mkF m 100 #[.val (.int i0), .val (.int i1), .val (.int (0 : Int32)), .val (.int (0 : Int32)), .val (.ref wJavaType_STRING), .val (.int (1 : Int32)), .val (.int (1 : Int32)), .val (.ref wAttributeType_STRING), .val (.int (1 : Int32))] [])) _
    refine XS.aload X2.here hx rfl (hb hby at_100) rfl rfl ?_
    show Steps p.tables e below (T2.setTop (mkF m 102 #[.val (.int i0), .val (.int i1), .val (.int (0 : Int32)), .val (.int (0 : Int32)), .val (.ref wJavaType_STRING), .val (.int (1 : Int32)), .val (.int (1 : Int32)), .val (.ref wAttributeType_STRING), .val (.int (1 : Int32))] [(.ref wJavaType_STRING)])) _
    refine XS.aload X2.here hx rfl (hb hby at_102) rfl rfl ?_
    show Steps p.tables e below (T2.setTop (mkF m 104 #[.val (.int i0), .val (.int i1), .val (.int (0 : Int32)), .val (.int (0 : Int32)), .val (.ref wJavaType_STRING), .val (.int (1 : Int32)), .val (.int (1 : Int32)), .val (.ref wAttributeType_STRING), .val (.int (1 : Int32))] [(.ref wAttributeType_STRING), (.ref wJavaType_STRING)])) _
    refine st3.trans ?_
    show Steps p.tables e below (T3.setTop (mkF m 107 #[.val (.int i0), .val (.int i1), .val (.int (0 : Int32)), .val (.int (0 : Int32)), .val (.ref wJavaType_STRING), .val (.int (1 : Int32)), .val (.int (1 : Int32)), .val (.ref wAttributeType_STRING), .val (.int (1 : Int32))] [(.int (1 : Int32))])) _
    refine XS.iload X3.here hx rfl (hb hby at_107) rfl ?_
    show Steps p.tables e below (T3.setTop (mkF m 109 #[.val (.int i0), .val (.int i1), .val (.int (0 : Int32)), .val (.int (0 : Int32)), .val (.ref wJavaType_STRING), .val (.int (1 : Int32)), .val (.int (1 : Int32)), .val (.ref wAttributeType_STRING), .val (.int (1 : Int32))] [(.int (1 : Int32)), (.int (1 : Int32))])) _
    refine XS.icmpNo X3.here hx rfl (hb hby at_109) rfl (teq (by decide : (1 : Int32) = (1 : Int32))).2 ?_
    show Steps p.tables e below (T3.setTop (mkF m 112 #[.val (.int i0), .val (.int i1), .val (.int (0 : Int32)), .val (.int (0 : Int32)), .val (.ref wJavaType_STRING), .val (.int (1 : Int32)), .val (.int (1 : Int32)), .val (.ref wAttributeType_STRING), .val (.int (1 : Int32))] [])) _
    refine XS.iconst X3.here hx rfl (hb hby at_112) ?_
    show Steps p.tables e below (T3.setTop (mkF m 113 #[.val (.int i0), .val (.int i1), .val (.int (0 : Int32)), .val (.int (0 : Int32)), .val (.ref wJavaType_STRING), .val (.int (1 : Int32)), .val (.int (1 : Int32)), .val (.ref wAttributeType_STRING), .val (.int (1 : Int32))] [(.int (1 : Int32))])) _
    refine XS.goto X3.here hx rfl (pc0 := 113) (pc' := 117) rfl (hb hby at_113) (by decide) (by decide) ?_
    show Steps p.tables e below (T3.setTop (mkF m 117 #[.val (.int i0), .val (.int i1), .val (.int (0 : Int32)), .val (.int (0 : Int32)), .val (.ref wJavaType_STRING), .val (.int (1 : Int32)), .val (.int (1 : Int32)), .val (.ref wAttributeType_STRING), .val (.int (1 : Int32))] [(.int (1 : Int32))])) _
    exact retN X3 hx (t := .boolean) Bd.returns (by simp) (hb hby at_117) hr
  · exact ⟨rfl, N3, e3⟩
set_option maxRecDepth 65536 in
set_option maxHeartbeats 40000000 in
theorem own_r1_4 (l : Launch) (Z : State) (a0 : Array Value) (hw : ∀ d ∈ tables_1, d.before a0 Z = true) (ws : List Jvm.Cond) (wJavaType_STRING : Addr) (wAttributeType_NUMBER : Addr) (wJavaType_LONG : Addr) (wAttributeType_STRING : Addr) (wJavaType_INTEGER : Addr) (wJavaType_BIG_DECIMAL : Addr) (h0 : Heap) (n0 : Nat) (Z0 : n0 ≤ h0.size) (F : own_W Z h0 wJavaType_STRING wAttributeType_NUMBER wJavaType_LONG wAttributeType_STRING wJavaType_INTEGER wJavaType_BIG_DECIMAL)   :
    MetFree l (⟨"com/example/hesiod/hesiod/dynamodb/JavaType", "holds", "(Lcom/example/hesiod/hesiod/model/AttributeType;)Z"⟩ : MethodName) (head1 (Jvm.Cond.code (⟨"com/example/hesiod/hesiod/dynamodb/JavaType", "holds", "(Lcom/example/hesiod/hesiod/model/AttributeType;)Z"⟩ : MethodName) prog_3_method_5_code 2 (some .boolean) :: ws) ({ frames := 0, cells := 0, slots := 0, locals := 0 } : Room)) (fun a U => a = #[(.ref wJavaType_STRING), (.ref wAttributeType_NUMBER)] ∧ Z.Warmed39 U.vm ∧ U.heap = h0) (fun _ _ _ _ _ => True) (fun _ U o U' => ∃ v L, o = .returned v ∧ own_Q (.int (1 : Int32)) h0 n0 v U'.heap L ∧ FrameEnd U o U' L ({ frames := 0, cells := 0, slots := 0, locals := 0 } : Room).cells ({ frames := 0, cells := 0, slots := 0, locals := 0 } : Room).slots) := by
  obtain ⟨S_wJavaType_STRING, E_wJavaType_STRING, S_wAttributeType_NUMBER, E_wAttributeType_NUMBER, S_wJavaType_LONG, E_wJavaType_LONG, S_wAttributeType_STRING, E_wAttributeType_STRING, S_wJavaType_INTEGER, E_wJavaType_INTEGER, S_wJavaType_BIG_DECIMAL, E_wJavaType_BIG_DECIMAL, F_wJavaType_LONG_ordinal, F_wJavaType_STRING_ordinal, F_wJavaType_INTEGER_ordinal, F_wAttributeType_STRING_ordinal, F_wAttributeType_NUMBER_ordinal, F_wJavaType_BIG_DECIMAL_ordinal, ne_wJavaType_STRING_wJavaType_LONG, ne_wJavaType_STRING_wJavaType_INTEGER, ne_wJavaType_STRING_wJavaType_BIG_DECIMAL, ne_wAttributeType_NUMBER_wAttributeType_STRING, ne_wJavaType_LONG_wJavaType_INTEGER, ne_wJavaType_LONG_wJavaType_BIG_DECIMAL, ne_wJavaType_INTEGER_wJavaType_BIG_DECIMAL⟩ := id F
  refine MetFree.of_bodySF (plainFor_of_name own_pn_JavaType) hisR ?_
  intro p e s m args below meth c s₁ Bd hml0 hP hK
  obtain ⟨rfl, hZ, hh⟩ := hP
  have hx := Bd.exec
  have hby := Bd.bytes
  have hml : c.maxLocals = 2 := hml0
  have hown : s.vm.findClass "com/example/hesiod/hesiod/dynamodb/JavaType" = some m.cls := findClass_of_methodNamed Bd.named
  have X0 : Stand p l e ({ frames := 0, cells := 0, slots := 0, locals := 0 } : Room) s m #[(.ref wJavaType_STRING), (.ref wAttributeType_NUMBER)] below meth c s₁ [] 0 0 := Stand.of_body Bd
  have e0 : s₁.heap = h0 := by rw [← hh, Bd.state]; rfl
  have N0 := Fr.nil n0
  have pre0 : ∀ t, Steps p.tables e below (s₁.setTop (mkF m 0 #[.val (.ref wJavaType_STRING), .val (.ref wAttributeType_NUMBER)] [])) t → Steps p.tables e below (s₁.setTop (entryFrame m #[(.ref wJavaType_STRING), (.ref wAttributeType_NUMBER)] 2)) t := fun t k => castTop (own_ef1_RR m wJavaType_STRING wAttributeType_NUMBER) k
  obtain ⟨T1, X1, e1, st1⟩ := getS2 X0 hx hZ hown (host := "") (Or.inl (hw _ (List.mem_of_getElem? (i := 11) rfl))) Via.refl e0 S_wJavaType_STRING (g := (mkF m 1 #[.val (.ref wJavaType_STRING), .val (.ref wAttributeType_NUMBER)] [(.ref wJavaType_STRING)])) rfl (hb hby own_d1_1)
  obtain ⟨fs, hr, hrun, hended, hW, hsame⟩ := X1.leave (v := some (.int (1 : Int32))) (fun h => by rw [Bd.returns] at h; cases h)
  refine ⟨_, _, pre0 _ ?_, hrun, hended, _, _, rfl, ?_, ⟨_, rfl⟩, hW, hsame.mono (by decide) (by decide)⟩
  · show Steps p.tables e below (s₁.setTop (mkF m 0 #[.val (.ref wJavaType_STRING), .val (.ref wAttributeType_NUMBER)] [])) _
    refine XS.aloadN X0.here hx rfl (hb hby own_d1_0) rfl rfl ?_
    show Steps p.tables e below (s₁.setTop (mkF m 1 #[.val (.ref wJavaType_STRING), .val (.ref wAttributeType_NUMBER)] [(.ref wJavaType_STRING)])) _
    refine st1 _ ?_
    show Steps p.tables e below (T1.setTop (mkF m 4 #[.val (.ref wJavaType_STRING), .val (.ref wAttributeType_NUMBER)] [(.ref wJavaType_STRING), (.ref wJavaType_STRING)])) _
    refine Jvm.RoadKit.acmp (g := (mkF m 4 #[.val (.ref wJavaType_STRING), .val (.ref wAttributeType_NUMBER)] [(.ref wJavaType_STRING), (.ref wJavaType_STRING)])) X1 hx rfl rfl rfl (pc0 := 4) (pc' := 14) (same := true) rfl (hb hby own_d1_4) rfl (decide_eq_true rfl) (by decide) (by decide) ?_
    show Steps p.tables e below (T1.setTop (mkF m 14 #[.val (.ref wJavaType_STRING), .val (.ref wAttributeType_NUMBER)] [])) _
    refine XS.iconst X1.here hx rfl (hb hby own_d1_14) ?_
    show Steps p.tables e below (T1.setTop (mkF m 15 #[.val (.ref wJavaType_STRING), .val (.ref wAttributeType_NUMBER)] [(.int (1 : Int32))])) _
    refine XS.goto X1.here hx rfl (pc0 := 15) (pc' := 19) rfl (hb hby own_d1_15) (by decide) (by decide) ?_
    show Steps p.tables e below (T1.setTop (mkF m 19 #[.val (.ref wJavaType_STRING), .val (.ref wAttributeType_NUMBER)] [(.int (1 : Int32))])) _
    exact retN X1 hx (t := .boolean) Bd.returns (by simp) (hb hby own_d1_19) hr
  · exact ⟨rfl, N0, e1⟩
set_option maxRecDepth 65536 in
set_option maxHeartbeats 40000000 in
theorem own_r0_t0a1 (l : Launch) (Z : State) (a0 : Array Value) (hw : ∀ d ∈ tables_1, d.before a0 Z = true) (ws : List Jvm.Cond) (wJavaType_STRING : Addr) (wAttributeType_NUMBER : Addr) (wJavaType_LONG : Addr) (wAttributeType_STRING : Addr) (wJavaType_INTEGER : Addr) (wJavaType_BIG_DECIMAL : Addr) (h0 : Heap) (n0 : Nat) (Z0 : n0 ≤ h0.size) (F : own_W Z h0 wJavaType_STRING wAttributeType_NUMBER wJavaType_LONG wAttributeType_STRING wJavaType_INTEGER wJavaType_BIG_DECIMAL) (i0 : Int32) (i1 : Int32) (ht : (i0 &&& (3 : Int32)) = (0 : Int32)) (ha : (i1 &&& (1 : Int32)) = (1 : Int32)) :
    MetFree l x (head1 (Jvm.Cond.code x code maxLocals ret :: ws) room_1) (fun a U => a = #[(.int i0), (.int i1)] ∧ Z.Warmed39 U.vm ∧ U.heap = h0) (fun _ _ _ _ _ => True) (fun _ U o U' => ∃ v L, o = .returned v ∧ own_Q (.int (1 : Int32)) h0 n0 v U'.heap L ∧ FrameEnd U o U' L room_1.cells room_1.slots) := by
  obtain ⟨S_wJavaType_STRING, E_wJavaType_STRING, S_wAttributeType_NUMBER, E_wAttributeType_NUMBER, S_wJavaType_LONG, E_wJavaType_LONG, S_wAttributeType_STRING, E_wAttributeType_STRING, S_wJavaType_INTEGER, E_wJavaType_INTEGER, S_wJavaType_BIG_DECIMAL, E_wJavaType_BIG_DECIMAL, F_wJavaType_LONG_ordinal, F_wJavaType_STRING_ordinal, F_wJavaType_INTEGER_ordinal, F_wAttributeType_STRING_ordinal, F_wAttributeType_NUMBER_ordinal, F_wJavaType_BIG_DECIMAL_ordinal, ne_wJavaType_STRING_wJavaType_LONG, ne_wJavaType_STRING_wJavaType_INTEGER, ne_wJavaType_STRING_wJavaType_BIG_DECIMAL, ne_wAttributeType_NUMBER_wAttributeType_STRING, ne_wJavaType_LONG_wJavaType_INTEGER, ne_wJavaType_LONG_wJavaType_BIG_DECIMAL, ne_wJavaType_INTEGER_wJavaType_BIG_DECIMAL⟩ := id F
  refine MetFree.of_bodySF (plainFor_of_name own_pn_JavaTypeHoldsPinLaw) hisR ?_
  intro p e s m args below meth c s₁ Bd hml0 hP hK
  obtain ⟨rfl, hZ, hh⟩ := hP
  have hx := Bd.exec
  have hby := Bd.bytes
  have hml : c.maxLocals = 9 := hml0
  have hown : s.vm.findClass "com/example/hesiod/hesiod/dynamodb/JavaTypeHoldsPinLaw" = some m.cls := findClass_of_methodNamed Bd.named
  have X0 : Stand p l e room_1 s m #[(.int i0), (.int i1)] below meth c s₁ [] 0 0 := Stand.of_body Bd
  have e0 : s₁.heap = h0 := by rw [← hh, Bd.state]; rfl
  have N0 := Fr.nil n0
  have pre0 : ∀ t, Steps p.tables e below (s₁.setTop (mkF m 0 #[.val (.int i0), .val (.int i1), .unset, .unset, .unset, .unset, .unset, .unset, .unset] [])) t → Steps p.tables e below (s₁.setTop (entryFrame m #[(.int i0), (.int i1)] maxLocals)) t := fun t k => castTop (own_ef0_II m i0 i1) k
  obtain ⟨T1, X1, e1, st1⟩ := getS2 X0 hx hZ hown (host := "") (Or.inl (hw _ (List.mem_of_getElem? (i := 0) rfl))) Via.refl e0 S_wJavaType_STRING (g := (mkF m 12 #[.val (.int i0), .val (.int i1), .val (.int (0 : Int32)), .val (.int (1 : Int32)), .unset, .unset, .unset, .unset, .unset] [])) rfl (hb hby at_12)
  obtain ⟨T2, X2, e2, st2⟩ := getS2 X1 hx hZ hown (host := "") (Or.inl (hw _ (List.mem_of_getElem? (i := 3) rfl))) Via.refl e1 S_wAttributeType_NUMBER (g := (mkF m 91 #[.val (.int i0), .val (.int i1), .val (.int (0 : Int32)), .val (.int (1 : Int32)), .val (.ref wJavaType_STRING), .val (.int (1 : Int32)), .val (.int (1 : Int32)), .unset, .unset] [])) rfl (hb hby at_91)
  obtain ⟨cq3, kq3, q3a, q3b, q3c⟩ := isOf hZ e2 E_wJavaType_STRING
  obtain ⟨_, _, ⟨T3, L3, k3, n3⟩, -, X3, ⟨Lc3, hQ3, l3, y3, z3⟩, st3⟩ := X2.virtualBack hx (y := (⟨"com/example/hesiod/hesiod/dynamodb/JavaType", "holds", "(Lcom/example/hesiod/hesiod/model/AttributeType;)Z"⟩ : MethodName)) (z := (⟨"com/example/hesiod/hesiod/dynamodb/JavaType", "holds", "(Lcom/example/hesiod/hesiod/model/AttributeType;)Z"⟩ : MethodName)) hown (mvT hZ (hw _ (List.mem_of_getElem? (i := 6) rfl))) (mvT hZ (hw _ (List.mem_of_getElem? (i := 7) rfl))) (notFace_of_selects (args := #[]) (mvT hZ (hw _ (List.mem_of_getElem? (i := 9) rfl)))) (mvT hZ (hw _ (List.mem_of_getElem? (i := 9) rfl))) (mvT hZ (hw _ (List.mem_of_getElem? (i := 8) rfl))) (by decide) (backOf (W := 0) (own_r1_4 l Z a0 hw [] wJavaType_STRING wAttributeType_NUMBER wJavaType_LONG wAttributeType_STRING wJavaType_INTEGER wJavaType_BIG_DECIMAL h0 n0 Z0 F ) hZ (hw _ (List.mem_of_getElem? (i := 10) rfl)) (hw _ (List.mem_of_getElem? (i := 1) rfl)) (by decide) (by decide)) q3a q3c (g := (mkF m 104 #[.val (.int i0), .val (.int i1), .val (.int (0 : Int32)), .val (.int (1 : Int32)), .val (.ref wJavaType_STRING), .val (.int (1 : Int32)), .val (.int (1 : Int32)), .val (.ref wAttributeType_NUMBER), .val (.int (1 : Int32))] [(.ref wAttributeType_NUMBER), (.ref wJavaType_STRING)])) rfl (by rw [hml]; rfl) (Steps.refl _) (argsL := [(.ref wAttributeType_NUMBER)]) (rest := []) (lenOf own_pd0 rfl) rfl (by show 2 * 0 + _ ≤ _; exact Nat.le_of_eq rfl) (hb hby at_104) (fun _ _ => ⟨rfl, e2, (by decide : 0 + 0 ≤ _), (by decide : 0 + 0 ≤ _)⟩)
  dsimp only [Pt.U, Pt.locs, Pt.cells, Pt.slots] at X3 l3 y3 z3 st3 hQ3
  subst l3 y3 z3
  obtain ⟨rfl, N3q, e3⟩ := hQ3
  have N3 := Fr.app N0 N3q
  obtain ⟨fs, hr, hrun, hended, hW, hsame⟩ := X3.leave (v := some (.int (1 : Int32))) (fun h => by rw [Bd.returns] at h; cases h)
  refine ⟨_, _, pre0 _ ?_, hrun, hended, _, _, rfl, ?_, ⟨_, rfl⟩, hW, hsame.mono (by decide) (by decide)⟩
  · show Steps p.tables e below (s₁.setTop (mkF m 0 #[.val (.int i0), .val (.int i1), .unset, .unset, .unset, .unset, .unset, .unset, .unset] [])) _
    refine XS.iloadN X0.here hx rfl (hb hby at_0) rfl ?_
    show Steps p.tables e below (s₁.setTop (mkF m 1 #[.val (.int i0), .val (.int i1), .unset, .unset, .unset, .unset, .unset, .unset, .unset] [(.int i0)])) _
    refine XS.iconst X0.here hx rfl (hb hby at_1) ?_
    show Steps p.tables e below (s₁.setTop (mkF m 2 #[.val (.int i0), .val (.int i1), .unset, .unset, .unset, .unset, .unset, .unset, .unset] [(.int (3 : Int32)), (.int i0)])) _
    refine XS.iand X0.here hx rfl (hb hby at_2) rfl ?_
    show Steps p.tables e below (s₁.setTop (mkF m 3 #[.val (.int i0), .val (.int i1), .unset, .unset, .unset, .unset, .unset, .unset, .unset] [(.int (i0 &&& (3 : Int32)))])) _
    rw [ht]
    show Steps p.tables e below (s₁.setTop (mkF m 3 #[.val (.int i0), .val (.int i1), .unset, .unset, .unset, .unset, .unset, .unset, .unset] [(.int (0 : Int32))])) _
    refine XS.istoreN X0.here hx rfl (hb hby at_3) rfl (l' := #[.val (.int i0), .val (.int i1), .val (.int (0 : Int32)), .unset, .unset, .unset, .unset, .unset, .unset]) rfl ?_
    show Steps p.tables e below (s₁.setTop (mkF m 4 #[.val (.int i0), .val (.int i1), .val (.int (0 : Int32)), .unset, .unset, .unset, .unset, .unset, .unset] [])) _
    refine XS.iloadN X0.here hx rfl (hb hby at_4) rfl ?_
    show Steps p.tables e below (s₁.setTop (mkF m 5 #[.val (.int i0), .val (.int i1), .val (.int (0 : Int32)), .unset, .unset, .unset, .unset, .unset, .unset] [(.int i1)])) _
    refine XS.iconst X0.here hx rfl (hb hby at_5) ?_
    show Steps p.tables e below (s₁.setTop (mkF m 6 #[.val (.int i0), .val (.int i1), .val (.int (0 : Int32)), .unset, .unset, .unset, .unset, .unset, .unset] [(.int (1 : Int32)), (.int i1)])) _
    refine XS.iand X0.here hx rfl (hb hby at_6) rfl ?_
    show Steps p.tables e below (s₁.setTop (mkF m 7 #[.val (.int i0), .val (.int i1), .val (.int (0 : Int32)), .unset, .unset, .unset, .unset, .unset, .unset] [(.int (i1 &&& (1 : Int32)))])) _
    rw [ha]
    show Steps p.tables e below (s₁.setTop (mkF m 7 #[.val (.int i0), .val (.int i1), .val (.int (0 : Int32)), .unset, .unset, .unset, .unset, .unset, .unset] [(.int (1 : Int32))])) _
    refine XS.istoreN X0.here hx rfl (hb hby at_7) rfl (l' := #[.val (.int i0), .val (.int i1), .val (.int (0 : Int32)), .val (.int (1 : Int32)), .unset, .unset, .unset, .unset, .unset]) rfl ?_
    show Steps p.tables e below (s₁.setTop (mkF m 8 #[.val (.int i0), .val (.int i1), .val (.int (0 : Int32)), .val (.int (1 : Int32)), .unset, .unset, .unset, .unset, .unset] [])) _
    refine XS.iloadN X0.here hx rfl (hb hby at_8) rfl ?_
    show Steps p.tables e below (s₁.setTop (mkF m 9 #[.val (.int i0), .val (.int i1), .val (.int (0 : Int32)), .val (.int (1 : Int32)), .unset, .unset, .unset, .unset, .unset] [(.int (0 : Int32))])) _
    refine XS.ifNo X0.here hx rfl (hb hby at_9) rfl ((if0 _ _).trans (teq (by decide : (0 : Int32) = (0 : Int32))).2) ?_
    show Steps p.tables e below (s₁.setTop (mkF m 12 #[.val (.int i0), .val (.int i1), .val (.int (0 : Int32)), .val (.int (1 : Int32)), .unset, .unset, .unset, .unset, .unset] [])) _
    refine st1 _ ?_
    show Steps p.tables e below (T1.setTop (mkF m 15 #[.val (.int i0), .val (.int i1), .val (.int (0 : Int32)), .val (.int (1 : Int32)), .unset, .unset, .unset, .unset, .unset] [(.ref wJavaType_STRING)])) _
    refine XS.astore X1.here hx rfl (hb hby at_15) rfl rfl (l' := #[.val (.int i0), .val (.int i1), .val (.int (0 : Int32)), .val (.int (1 : Int32)), .val (.ref wJavaType_STRING), .unset, .unset, .unset, .unset]) rfl ?_
    show Steps p.tables e below (T1.setTop (mkF m 17 #[.val (.int i0), .val (.int i1), .val (.int (0 : Int32)), .val (.int (1 : Int32)), .val (.ref wJavaType_STRING), .unset, .unset, .unset, .unset] [])) _
    refine XS.iconst X1.here hx rfl (hb hby at_17) ?_
    show Steps p.tables e below (T1.setTop (mkF m 18 #[.val (.int i0), .val (.int i1), .val (.int (0 : Int32)), .val (.int (1 : Int32)), .val (.ref wJavaType_STRING), .unset, .unset, .unset, .unset] [(.int (1 : Int32))])) _
    refine XS.istore X1.here hx rfl (hb hby at_18) rfl (l' := #[.val (.int i0), .val (.int i1), .val (.int (0 : Int32)), .val (.int (1 : Int32)), .val (.ref wJavaType_STRING), .val (.int (1 : Int32)), .unset, .unset, .unset]) rfl ?_
    show Steps p.tables e below (T1.setTop (mkF m 20 #[.val (.int i0), .val (.int i1), .val (.int (0 : Int32)), .val (.int (1 : Int32)), .val (.ref wJavaType_STRING), .val (.int (1 : Int32)), .unset, .unset, .unset] [])) _
    refine XS.iconst X1.here hx rfl (hb hby at_20) ?_
    show Steps p.tables e below (T1.setTop (mkF m 21 #[.val (.int i0), .val (.int i1), .val (.int (0 : Int32)), .val (.int (1 : Int32)), .val (.ref wJavaType_STRING), .val (.int (1 : Int32)), .unset, .unset, .unset] [(.int (1 : Int32))])) _
    refine XS.istore X1.here hx rfl (hb hby at_21) rfl (l' := #[.val (.int i0), .val (.int i1), .val (.int (0 : Int32)), .val (.int (1 : Int32)), .val (.ref wJavaType_STRING), .val (.int (1 : Int32)), .val (.int (1 : Int32)), .unset, .unset]) rfl ?_
    show Steps p.tables e below (T1.setTop (mkF m 23 #[.val (.int i0), .val (.int i1), .val (.int (0 : Int32)), .val (.int (1 : Int32)), .val (.ref wJavaType_STRING), .val (.int (1 : Int32)), .val (.int (1 : Int32)), .unset, .unset] [])) _
    refine XS.goto X1.here hx rfl (pc0 := 23) (pc' := 75) rfl (hb hby at_23) (by decide) (by decide) ?_
    show Steps p.tables e below (T1.setTop (mkF m 75 #[.val (.int i0), .val (.int i1), .val (.int (0 : Int32)), .val (.int (1 : Int32)), .val (.ref wJavaType_STRING), .val (.int (1 : Int32)), .val (.int (1 : Int32)), .unset, .unset] [])) _
    refine XS.iloadN X1.here hx rfl (hb hby at_75) rfl ?_
    show Steps p.tables e below (T1.setTop (mkF m 76 #[.val (.int i0), .val (.int i1), .val (.int (0 : Int32)), .val (.int (1 : Int32)), .val (.ref wJavaType_STRING), .val (.int (1 : Int32)), .val (.int (1 : Int32)), .unset, .unset] [(.int (1 : Int32))])) _
    refine XS.ifYes X1.here hx rfl (pc0 := 76) (pc' := 91) rfl (hb hby at_76) rfl ((if0 _ _).trans (feq (by decide : ¬ ((1 : Int32) = (0 : Int32)))).2) (by decide) (by decide) ?_
    show Steps p.tables e below (T1.setTop (mkF m 91 #[.val (.int i0), .val (.int i1), .val (.int (0 : Int32)), .val (.int (1 : Int32)), .val (.ref wJavaType_STRING), .val (.int (1 : Int32)), .val (.int (1 : Int32)), .unset, .unset] [])) _
    refine st2 _ ?_
    show Steps p.tables e below (T2.setTop (mkF m 94 #[.val (.int i0), .val (.int i1), .val (.int (0 : Int32)), .val (.int (1 : Int32)), .val (.ref wJavaType_STRING), .val (.int (1 : Int32)), .val (.int (1 : Int32)), .unset, .unset] [(.ref wAttributeType_NUMBER)])) _
    refine XS.astore X2.here hx rfl (hb hby at_94) rfl rfl (l' := #[.val (.int i0), .val (.int i1), .val (.int (0 : Int32)), .val (.int (1 : Int32)), .val (.ref wJavaType_STRING), .val (.int (1 : Int32)), .val (.int (1 : Int32)), .val (.ref wAttributeType_NUMBER), .unset]) rfl ?_
    show Steps p.tables e below (T2.setTop (mkF m 96 #[.val (.int i0), .val (.int i1), .val (.int (0 : Int32)), .val (.int (1 : Int32)), .val (.ref wJavaType_STRING), .val (.int (1 : Int32)), .val (.int (1 : Int32)), .val (.ref wAttributeType_NUMBER), .unset] [])) _
    refine XS.iload X2.here hx rfl (hb hby at_96) rfl ?_
    show Steps p.tables e below (T2.setTop (mkF m 98 #[.val (.int i0), .val (.int i1), .val (.int (0 : Int32)), .val (.int (1 : Int32)), .val (.ref wJavaType_STRING), .val (.int (1 : Int32)), .val (.int (1 : Int32)), .val (.ref wAttributeType_NUMBER), .unset] [(.int (1 : Int32))])) _
    refine XS.istore X2.here hx rfl (hb hby at_98) rfl (l' := #[.val (.int i0), .val (.int i1), .val (.int (0 : Int32)), .val (.int (1 : Int32)), .val (.ref wJavaType_STRING), .val (.int (1 : Int32)), .val (.int (1 : Int32)), .val (.ref wAttributeType_NUMBER), .val (.int (1 : Int32))]) rfl ?_
    show Steps p.tables e below (T2.setTop (mkF m 100 #[.val (.int i0), .val (.int i1), .val (.int (0 : Int32)), .val (.int (1 : Int32)), .val (.ref wJavaType_STRING), .val (.int (1 : Int32)), .val (.int (1 : Int32)), .val (.ref wAttributeType_NUMBER), .val (.int (1 : Int32))] [])) _
    refine XS.aload X2.here hx rfl (hb hby at_100) rfl rfl ?_
    show Steps p.tables e below (T2.setTop (mkF m 102 #[.val (.int i0), .val (.int i1), .val (.int (0 : Int32)), .val (.int (1 : Int32)), .val (.ref wJavaType_STRING), .val (.int (1 : Int32)), .val (.int (1 : Int32)), .val (.ref wAttributeType_NUMBER), .val (.int (1 : Int32))] [(.ref wJavaType_STRING)])) _
    refine XS.aload X2.here hx rfl (hb hby at_102) rfl rfl ?_
    show Steps p.tables e below (T2.setTop (mkF m 104 #[.val (.int i0), .val (.int i1), .val (.int (0 : Int32)), .val (.int (1 : Int32)), .val (.ref wJavaType_STRING), .val (.int (1 : Int32)), .val (.int (1 : Int32)), .val (.ref wAttributeType_NUMBER), .val (.int (1 : Int32))] [(.ref wAttributeType_NUMBER), (.ref wJavaType_STRING)])) _
    refine st3.trans ?_
    show Steps p.tables e below (T3.setTop (mkF m 107 #[.val (.int i0), .val (.int i1), .val (.int (0 : Int32)), .val (.int (1 : Int32)), .val (.ref wJavaType_STRING), .val (.int (1 : Int32)), .val (.int (1 : Int32)), .val (.ref wAttributeType_NUMBER), .val (.int (1 : Int32))] [(.int (1 : Int32))])) _
    refine XS.iload X3.here hx rfl (hb hby at_107) rfl ?_
    show Steps p.tables e below (T3.setTop (mkF m 109 #[.val (.int i0), .val (.int i1), .val (.int (0 : Int32)), .val (.int (1 : Int32)), .val (.ref wJavaType_STRING), .val (.int (1 : Int32)), .val (.int (1 : Int32)), .val (.ref wAttributeType_NUMBER), .val (.int (1 : Int32))] [(.int (1 : Int32)), (.int (1 : Int32))])) _
    refine XS.icmpNo X3.here hx rfl (hb hby at_109) rfl (teq (by decide : (1 : Int32) = (1 : Int32))).2 ?_
    show Steps p.tables e below (T3.setTop (mkF m 112 #[.val (.int i0), .val (.int i1), .val (.int (0 : Int32)), .val (.int (1 : Int32)), .val (.ref wJavaType_STRING), .val (.int (1 : Int32)), .val (.int (1 : Int32)), .val (.ref wAttributeType_NUMBER), .val (.int (1 : Int32))] [])) _
    refine XS.iconst X3.here hx rfl (hb hby at_112) ?_
    show Steps p.tables e below (T3.setTop (mkF m 113 #[.val (.int i0), .val (.int i1), .val (.int (0 : Int32)), .val (.int (1 : Int32)), .val (.ref wJavaType_STRING), .val (.int (1 : Int32)), .val (.int (1 : Int32)), .val (.ref wAttributeType_NUMBER), .val (.int (1 : Int32))] [(.int (1 : Int32))])) _
    refine XS.goto X3.here hx rfl (pc0 := 113) (pc' := 117) rfl (hb hby at_113) (by decide) (by decide) ?_
    show Steps p.tables e below (T3.setTop (mkF m 117 #[.val (.int i0), .val (.int i1), .val (.int (0 : Int32)), .val (.int (1 : Int32)), .val (.ref wJavaType_STRING), .val (.int (1 : Int32)), .val (.int (1 : Int32)), .val (.ref wAttributeType_NUMBER), .val (.int (1 : Int32))] [(.int (1 : Int32))])) _
    exact retN X3 hx (t := .boolean) Bd.returns (by simp) (hb hby at_117) hr
  · exact ⟨rfl, N3, e3⟩
theorem own_d1_7 : decode prog_3_method_5_code 7 = .ok (.aload_n 1, 1) := by decide +kernel
theorem own_d1_8 : decode prog_3_method_5_code 8 = .ok (.getstatic 75, 3) := by decide +kernel
theorem own_d1_11 : decode prog_3_method_5_code 11 = .ok (.if_acmp .ne 7, 3) := by decide +kernel
theorem own_d1_18 : decode prog_3_method_5_code 18 = .ok (.iconst 0, 1) := by decide +kernel
set_option maxRecDepth 65536 in
set_option maxHeartbeats 40000000 in
theorem own_r1_6 (l : Launch) (Z : State) (a0 : Array Value) (hw : ∀ d ∈ tables_1, d.before a0 Z = true) (ws : List Jvm.Cond) (wJavaType_STRING : Addr) (wAttributeType_NUMBER : Addr) (wJavaType_LONG : Addr) (wAttributeType_STRING : Addr) (wJavaType_INTEGER : Addr) (wJavaType_BIG_DECIMAL : Addr) (h0 : Heap) (n0 : Nat) (Z0 : n0 ≤ h0.size) (F : own_W Z h0 wJavaType_STRING wAttributeType_NUMBER wJavaType_LONG wAttributeType_STRING wJavaType_INTEGER wJavaType_BIG_DECIMAL)   :
    MetFree l (⟨"com/example/hesiod/hesiod/dynamodb/JavaType", "holds", "(Lcom/example/hesiod/hesiod/model/AttributeType;)Z"⟩ : MethodName) (head1 (Jvm.Cond.code (⟨"com/example/hesiod/hesiod/dynamodb/JavaType", "holds", "(Lcom/example/hesiod/hesiod/model/AttributeType;)Z"⟩ : MethodName) prog_3_method_5_code 2 (some .boolean) :: ws) ({ frames := 0, cells := 0, slots := 0, locals := 0 } : Room)) (fun a U => a = #[(.ref wJavaType_INTEGER), (.ref wAttributeType_STRING)] ∧ Z.Warmed39 U.vm ∧ U.heap = h0) (fun _ _ _ _ _ => True) (fun _ U o U' => ∃ v L, o = .returned v ∧ own_Q (.int (0 : Int32)) h0 n0 v U'.heap L ∧ FrameEnd U o U' L ({ frames := 0, cells := 0, slots := 0, locals := 0 } : Room).cells ({ frames := 0, cells := 0, slots := 0, locals := 0 } : Room).slots) := by
  obtain ⟨S_wJavaType_STRING, E_wJavaType_STRING, S_wAttributeType_NUMBER, E_wAttributeType_NUMBER, S_wJavaType_LONG, E_wJavaType_LONG, S_wAttributeType_STRING, E_wAttributeType_STRING, S_wJavaType_INTEGER, E_wJavaType_INTEGER, S_wJavaType_BIG_DECIMAL, E_wJavaType_BIG_DECIMAL, F_wJavaType_LONG_ordinal, F_wJavaType_STRING_ordinal, F_wJavaType_INTEGER_ordinal, F_wAttributeType_STRING_ordinal, F_wAttributeType_NUMBER_ordinal, F_wJavaType_BIG_DECIMAL_ordinal, ne_wJavaType_STRING_wJavaType_LONG, ne_wJavaType_STRING_wJavaType_INTEGER, ne_wJavaType_STRING_wJavaType_BIG_DECIMAL, ne_wAttributeType_NUMBER_wAttributeType_STRING, ne_wJavaType_LONG_wJavaType_INTEGER, ne_wJavaType_LONG_wJavaType_BIG_DECIMAL, ne_wJavaType_INTEGER_wJavaType_BIG_DECIMAL⟩ := id F
  refine MetFree.of_bodySF (plainFor_of_name own_pn_JavaType) hisR ?_
  intro p e s m args below meth c s₁ Bd hml0 hP hK
  obtain ⟨rfl, hZ, hh⟩ := hP
  have hx := Bd.exec
  have hby := Bd.bytes
  have hml : c.maxLocals = 2 := hml0
  have hown : s.vm.findClass "com/example/hesiod/hesiod/dynamodb/JavaType" = some m.cls := findClass_of_methodNamed Bd.named
  have X0 : Stand p l e ({ frames := 0, cells := 0, slots := 0, locals := 0 } : Room) s m #[(.ref wJavaType_INTEGER), (.ref wAttributeType_STRING)] below meth c s₁ [] 0 0 := Stand.of_body Bd
  have e0 : s₁.heap = h0 := by rw [← hh, Bd.state]; rfl
  have N0 := Fr.nil n0
  have pre0 : ∀ t, Steps p.tables e below (s₁.setTop (mkF m 0 #[.val (.ref wJavaType_INTEGER), .val (.ref wAttributeType_STRING)] [])) t → Steps p.tables e below (s₁.setTop (entryFrame m #[(.ref wJavaType_INTEGER), (.ref wAttributeType_STRING)] 2)) t := fun t k => castTop (own_ef1_RR m wJavaType_INTEGER wAttributeType_STRING) k
  obtain ⟨T1, X1, e1, st1⟩ := getS2 X0 hx hZ hown (host := "") (Or.inl (hw _ (List.mem_of_getElem? (i := 11) rfl))) Via.refl e0 S_wJavaType_STRING (g := (mkF m 1 #[.val (.ref wJavaType_INTEGER), .val (.ref wAttributeType_STRING)] [(.ref wJavaType_INTEGER)])) rfl (hb hby own_d1_1)
  obtain ⟨T2, X2, e2, st2⟩ := getS2 X1 hx hZ hown (host := "") (Or.inl (hw _ (List.mem_of_getElem? (i := 14) rfl))) Via.refl e1 S_wAttributeType_NUMBER (g := (mkF m 8 #[.val (.ref wJavaType_INTEGER), .val (.ref wAttributeType_STRING)] [(.ref wAttributeType_STRING)])) rfl (hb hby own_d1_8)
  obtain ⟨fs, hr, hrun, hended, hW, hsame⟩ := X2.leave (v := some (.int (0 : Int32))) (fun h => by rw [Bd.returns] at h; cases h)
  refine ⟨_, _, pre0 _ ?_, hrun, hended, _, _, rfl, ?_, ⟨_, rfl⟩, hW, hsame.mono (by decide) (by decide)⟩
  · show Steps p.tables e below (s₁.setTop (mkF m 0 #[.val (.ref wJavaType_INTEGER), .val (.ref wAttributeType_STRING)] [])) _
    refine XS.aloadN X0.here hx rfl (hb hby own_d1_0) rfl rfl ?_
    show Steps p.tables e below (s₁.setTop (mkF m 1 #[.val (.ref wJavaType_INTEGER), .val (.ref wAttributeType_STRING)] [(.ref wJavaType_INTEGER)])) _
    refine st1 _ ?_
    show Steps p.tables e below (T1.setTop (mkF m 4 #[.val (.ref wJavaType_INTEGER), .val (.ref wAttributeType_STRING)] [(.ref wJavaType_STRING), (.ref wJavaType_INTEGER)])) _
    refine Jvm.RoadKit.acmp (g := (mkF m 4 #[.val (.ref wJavaType_INTEGER), .val (.ref wAttributeType_STRING)] [(.ref wJavaType_STRING), (.ref wJavaType_INTEGER)])) X1 hx rfl rfl rfl (pc0 := 4) (pc' := 7) (same := false) rfl (hb hby own_d1_4) rfl (decide_eq_false fun q => (Ne.symm ne_wJavaType_STRING_wJavaType_INTEGER) (Value.ref.inj q)) (by decide) (by decide) ?_
    show Steps p.tables e below (T1.setTop (mkF m 7 #[.val (.ref wJavaType_INTEGER), .val (.ref wAttributeType_STRING)] [])) _
    refine XS.aloadN X1.here hx rfl (hb hby own_d1_7) rfl rfl ?_
    show Steps p.tables e below (T1.setTop (mkF m 8 #[.val (.ref wJavaType_INTEGER), .val (.ref wAttributeType_STRING)] [(.ref wAttributeType_STRING)])) _
    refine st2 _ ?_
    show Steps p.tables e below (T2.setTop (mkF m 11 #[.val (.ref wJavaType_INTEGER), .val (.ref wAttributeType_STRING)] [(.ref wAttributeType_NUMBER), (.ref wAttributeType_STRING)])) _
    refine Jvm.RoadKit.acmp (g := (mkF m 11 #[.val (.ref wJavaType_INTEGER), .val (.ref wAttributeType_STRING)] [(.ref wAttributeType_NUMBER), (.ref wAttributeType_STRING)])) X2 hx rfl rfl rfl (pc0 := 11) (pc' := 18) (same := false) rfl (hb hby own_d1_11) rfl (decide_eq_false fun q => (Ne.symm ne_wAttributeType_NUMBER_wAttributeType_STRING) (Value.ref.inj q)) (by decide) (by decide) ?_
    show Steps p.tables e below (T2.setTop (mkF m 18 #[.val (.ref wJavaType_INTEGER), .val (.ref wAttributeType_STRING)] [])) _
    refine XS.iconst X2.here hx rfl (hb hby own_d1_18) ?_
    show Steps p.tables e below (T2.setTop (mkF m 19 #[.val (.ref wJavaType_INTEGER), .val (.ref wAttributeType_STRING)] [(.int (0 : Int32))])) _
    exact retN X2 hx (t := .boolean) Bd.returns (by simp) (hb hby own_d1_19) hr
  · exact ⟨rfl, N0, e2⟩
set_option maxRecDepth 65536 in
set_option maxHeartbeats 40000000 in
theorem own_r0_t1a0 (l : Launch) (Z : State) (a0 : Array Value) (hw : ∀ d ∈ tables_1, d.before a0 Z = true) (ws : List Jvm.Cond) (wJavaType_STRING : Addr) (wAttributeType_NUMBER : Addr) (wJavaType_LONG : Addr) (wAttributeType_STRING : Addr) (wJavaType_INTEGER : Addr) (wJavaType_BIG_DECIMAL : Addr) (h0 : Heap) (n0 : Nat) (Z0 : n0 ≤ h0.size) (F : own_W Z h0 wJavaType_STRING wAttributeType_NUMBER wJavaType_LONG wAttributeType_STRING wJavaType_INTEGER wJavaType_BIG_DECIMAL) (i0 : Int32) (i1 : Int32) (ht : (i0 &&& (3 : Int32)) = (1 : Int32)) (ha : (i1 &&& (1 : Int32)) = (0 : Int32)) :
    MetFree l x (head1 (Jvm.Cond.code x code maxLocals ret :: ws) room_1) (fun a U => a = #[(.int i0), (.int i1)] ∧ Z.Warmed39 U.vm ∧ U.heap = h0) (fun _ _ _ _ _ => True) (fun _ U o U' => ∃ v L, o = .returned v ∧ own_Q (.int (1 : Int32)) h0 n0 v U'.heap L ∧ FrameEnd U o U' L room_1.cells room_1.slots) := by
  obtain ⟨S_wJavaType_STRING, E_wJavaType_STRING, S_wAttributeType_NUMBER, E_wAttributeType_NUMBER, S_wJavaType_LONG, E_wJavaType_LONG, S_wAttributeType_STRING, E_wAttributeType_STRING, S_wJavaType_INTEGER, E_wJavaType_INTEGER, S_wJavaType_BIG_DECIMAL, E_wJavaType_BIG_DECIMAL, F_wJavaType_LONG_ordinal, F_wJavaType_STRING_ordinal, F_wJavaType_INTEGER_ordinal, F_wAttributeType_STRING_ordinal, F_wAttributeType_NUMBER_ordinal, F_wJavaType_BIG_DECIMAL_ordinal, ne_wJavaType_STRING_wJavaType_LONG, ne_wJavaType_STRING_wJavaType_INTEGER, ne_wJavaType_STRING_wJavaType_BIG_DECIMAL, ne_wAttributeType_NUMBER_wAttributeType_STRING, ne_wJavaType_LONG_wJavaType_INTEGER, ne_wJavaType_LONG_wJavaType_BIG_DECIMAL, ne_wJavaType_INTEGER_wJavaType_BIG_DECIMAL⟩ := id F
  refine MetFree.of_bodySF (plainFor_of_name own_pn_JavaTypeHoldsPinLaw) hisR ?_
  intro p e s m args below meth c s₁ Bd hml0 hP hK
  obtain ⟨rfl, hZ, hh⟩ := hP
  have hx := Bd.exec
  have hby := Bd.bytes
  have hml : c.maxLocals = 9 := hml0
  have hown : s.vm.findClass "com/example/hesiod/hesiod/dynamodb/JavaTypeHoldsPinLaw" = some m.cls := findClass_of_methodNamed Bd.named
  have X0 : Stand p l e room_1 s m #[(.int i0), (.int i1)] below meth c s₁ [] 0 0 := Stand.of_body Bd
  have e0 : s₁.heap = h0 := by rw [← hh, Bd.state]; rfl
  have N0 := Fr.nil n0
  have pre0 : ∀ t, Steps p.tables e below (s₁.setTop (mkF m 0 #[.val (.int i0), .val (.int i1), .unset, .unset, .unset, .unset, .unset, .unset, .unset] [])) t → Steps p.tables e below (s₁.setTop (entryFrame m #[(.int i0), (.int i1)] maxLocals)) t := fun t k => castTop (own_ef0_II m i0 i1) k
  obtain ⟨T1, X1, e1, st1⟩ := getS2 X0 hx hZ hown (host := "") (Or.inl (hw _ (List.mem_of_getElem? (i := 17) rfl))) Via.refl e0 S_wJavaType_INTEGER (g := (mkF m 31 #[.val (.int i0), .val (.int i1), .val (.int (1 : Int32)), .val (.int (0 : Int32)), .unset, .unset, .unset, .unset, .unset] [])) rfl (hb hby at_31)
  obtain ⟨T2, X2, e2, st2⟩ := getS2 X1 hx hZ hown (host := "") (Or.inl (hw _ (List.mem_of_getElem? (i := 15) rfl))) Via.refl e1 S_wAttributeType_STRING (g := (mkF m 79 #[.val (.int i0), .val (.int i1), .val (.int (1 : Int32)), .val (.int (0 : Int32)), .val (.ref wJavaType_INTEGER), .val (.int (0 : Int32)), .val (.int (1 : Int32)), .unset, .unset] [])) rfl (hb hby at_79)
  obtain ⟨cq3, kq3, q3a, q3b, q3c⟩ := isOf hZ e2 E_wJavaType_INTEGER
  obtain ⟨_, _, ⟨T3, L3, k3, n3⟩, -, X3, ⟨Lc3, hQ3, l3, y3, z3⟩, st3⟩ := X2.virtualBack hx (y := (⟨"com/example/hesiod/hesiod/dynamodb/JavaType", "holds", "(Lcom/example/hesiod/hesiod/model/AttributeType;)Z"⟩ : MethodName)) (z := (⟨"com/example/hesiod/hesiod/dynamodb/JavaType", "holds", "(Lcom/example/hesiod/hesiod/model/AttributeType;)Z"⟩ : MethodName)) hown (mvT hZ (hw _ (List.mem_of_getElem? (i := 6) rfl))) (mvT hZ (hw _ (List.mem_of_getElem? (i := 7) rfl))) (notFace_of_selects (args := #[]) (mvT hZ (hw _ (List.mem_of_getElem? (i := 9) rfl)))) (mvT hZ (hw _ (List.mem_of_getElem? (i := 9) rfl))) (mvT hZ (hw _ (List.mem_of_getElem? (i := 8) rfl))) (by decide) (backOf (W := 0) (own_r1_6 l Z a0 hw [] wJavaType_STRING wAttributeType_NUMBER wJavaType_LONG wAttributeType_STRING wJavaType_INTEGER wJavaType_BIG_DECIMAL h0 n0 Z0 F ) hZ (hw _ (List.mem_of_getElem? (i := 10) rfl)) (hw _ (List.mem_of_getElem? (i := 1) rfl)) (by decide) (by decide)) q3a q3c (g := (mkF m 104 #[.val (.int i0), .val (.int i1), .val (.int (1 : Int32)), .val (.int (0 : Int32)), .val (.ref wJavaType_INTEGER), .val (.int (0 : Int32)), .val (.int (1 : Int32)), .val (.ref wAttributeType_STRING), .val (.int (0 : Int32))] [(.ref wAttributeType_STRING), (.ref wJavaType_INTEGER)])) rfl (by rw [hml]; rfl) (Steps.refl _) (argsL := [(.ref wAttributeType_STRING)]) (rest := []) (lenOf own_pd0 rfl) rfl (by show 2 * 0 + _ ≤ _; exact Nat.le_of_eq rfl) (hb hby at_104) (fun _ _ => ⟨rfl, e2, (by decide : 0 + 0 ≤ _), (by decide : 0 + 0 ≤ _)⟩)
  dsimp only [Pt.U, Pt.locs, Pt.cells, Pt.slots] at X3 l3 y3 z3 st3 hQ3
  subst l3 y3 z3
  obtain ⟨rfl, N3q, e3⟩ := hQ3
  have N3 := Fr.app N0 N3q
  obtain ⟨fs, hr, hrun, hended, hW, hsame⟩ := X3.leave (v := some (.int (1 : Int32))) (fun h => by rw [Bd.returns] at h; cases h)
  refine ⟨_, _, pre0 _ ?_, hrun, hended, _, _, rfl, ?_, ⟨_, rfl⟩, hW, hsame.mono (by decide) (by decide)⟩
  · show Steps p.tables e below (s₁.setTop (mkF m 0 #[.val (.int i0), .val (.int i1), .unset, .unset, .unset, .unset, .unset, .unset, .unset] [])) _
    refine XS.iloadN X0.here hx rfl (hb hby at_0) rfl ?_
    show Steps p.tables e below (s₁.setTop (mkF m 1 #[.val (.int i0), .val (.int i1), .unset, .unset, .unset, .unset, .unset, .unset, .unset] [(.int i0)])) _
    refine XS.iconst X0.here hx rfl (hb hby at_1) ?_
    show Steps p.tables e below (s₁.setTop (mkF m 2 #[.val (.int i0), .val (.int i1), .unset, .unset, .unset, .unset, .unset, .unset, .unset] [(.int (3 : Int32)), (.int i0)])) _
    refine XS.iand X0.here hx rfl (hb hby at_2) rfl ?_
    show Steps p.tables e below (s₁.setTop (mkF m 3 #[.val (.int i0), .val (.int i1), .unset, .unset, .unset, .unset, .unset, .unset, .unset] [(.int (i0 &&& (3 : Int32)))])) _
    rw [ht]
    show Steps p.tables e below (s₁.setTop (mkF m 3 #[.val (.int i0), .val (.int i1), .unset, .unset, .unset, .unset, .unset, .unset, .unset] [(.int (1 : Int32))])) _
    refine XS.istoreN X0.here hx rfl (hb hby at_3) rfl (l' := #[.val (.int i0), .val (.int i1), .val (.int (1 : Int32)), .unset, .unset, .unset, .unset, .unset, .unset]) rfl ?_
    show Steps p.tables e below (s₁.setTop (mkF m 4 #[.val (.int i0), .val (.int i1), .val (.int (1 : Int32)), .unset, .unset, .unset, .unset, .unset, .unset] [])) _
    refine XS.iloadN X0.here hx rfl (hb hby at_4) rfl ?_
    show Steps p.tables e below (s₁.setTop (mkF m 5 #[.val (.int i0), .val (.int i1), .val (.int (1 : Int32)), .unset, .unset, .unset, .unset, .unset, .unset] [(.int i1)])) _
    refine XS.iconst X0.here hx rfl (hb hby at_5) ?_
    show Steps p.tables e below (s₁.setTop (mkF m 6 #[.val (.int i0), .val (.int i1), .val (.int (1 : Int32)), .unset, .unset, .unset, .unset, .unset, .unset] [(.int (1 : Int32)), (.int i1)])) _
    refine XS.iand X0.here hx rfl (hb hby at_6) rfl ?_
    show Steps p.tables e below (s₁.setTop (mkF m 7 #[.val (.int i0), .val (.int i1), .val (.int (1 : Int32)), .unset, .unset, .unset, .unset, .unset, .unset] [(.int (i1 &&& (1 : Int32)))])) _
    rw [ha]
    show Steps p.tables e below (s₁.setTop (mkF m 7 #[.val (.int i0), .val (.int i1), .val (.int (1 : Int32)), .unset, .unset, .unset, .unset, .unset, .unset] [(.int (0 : Int32))])) _
    refine XS.istoreN X0.here hx rfl (hb hby at_7) rfl (l' := #[.val (.int i0), .val (.int i1), .val (.int (1 : Int32)), .val (.int (0 : Int32)), .unset, .unset, .unset, .unset, .unset]) rfl ?_
    show Steps p.tables e below (s₁.setTop (mkF m 8 #[.val (.int i0), .val (.int i1), .val (.int (1 : Int32)), .val (.int (0 : Int32)), .unset, .unset, .unset, .unset, .unset] [])) _
    refine XS.iloadN X0.here hx rfl (hb hby at_8) rfl ?_
    show Steps p.tables e below (s₁.setTop (mkF m 9 #[.val (.int i0), .val (.int i1), .val (.int (1 : Int32)), .val (.int (0 : Int32)), .unset, .unset, .unset, .unset, .unset] [(.int (1 : Int32))])) _
    refine XS.ifYes X0.here hx rfl (pc0 := 9) (pc' := 26) rfl (hb hby at_9) rfl ((if0 _ _).trans (feq (by decide : ¬ ((1 : Int32) = (0 : Int32)))).2) (by decide) (by decide) ?_
    show Steps p.tables e below (s₁.setTop (mkF m 26 #[.val (.int i0), .val (.int i1), .val (.int (1 : Int32)), .val (.int (0 : Int32)), .unset, .unset, .unset, .unset, .unset] [])) _
    refine XS.iloadN X0.here hx rfl (hb hby at_26) rfl ?_
    show Steps p.tables e below (s₁.setTop (mkF m 27 #[.val (.int i0), .val (.int i1), .val (.int (1 : Int32)), .val (.int (0 : Int32)), .unset, .unset, .unset, .unset, .unset] [(.int (1 : Int32))])) _
    refine XS.iconst X0.here hx rfl (hb hby at_27) ?_
    show Steps p.tables e below (s₁.setTop (mkF m 28 #[.val (.int i0), .val (.int i1), .val (.int (1 : Int32)), .val (.int (0 : Int32)), .unset, .unset, .unset, .unset, .unset] [(.int (1 : Int32)), (.int (1 : Int32))])) _
    refine XS.icmpNo X0.here hx rfl (hb hby at_28) rfl (teq (by decide : (1 : Int32) = (1 : Int32))).2 ?_
    show Steps p.tables e below (s₁.setTop (mkF m 31 #[.val (.int i0), .val (.int i1), .val (.int (1 : Int32)), .val (.int (0 : Int32)), .unset, .unset, .unset, .unset, .unset] [])) _
    refine st1 _ ?_
    show Steps p.tables e below (T1.setTop (mkF m 34 #[.val (.int i0), .val (.int i1), .val (.int (1 : Int32)), .val (.int (0 : Int32)), .unset, .unset, .unset, .unset, .unset] [(.ref wJavaType_INTEGER)])) _
    refine XS.astore X1.here hx rfl (hb hby at_34) rfl rfl (l' := #[.val (.int i0), .val (.int i1), .val (.int (1 : Int32)), .val (.int (0 : Int32)), .val (.ref wJavaType_INTEGER), .unset, .unset, .unset, .unset]) rfl ?_
    show Steps p.tables e below (T1.setTop (mkF m 36 #[.val (.int i0), .val (.int i1), .val (.int (1 : Int32)), .val (.int (0 : Int32)), .val (.ref wJavaType_INTEGER), .unset, .unset, .unset, .unset] [])) _
    refine XS.iconst X1.here hx rfl (hb hby at_36) ?_
    show Steps p.tables e below (T1.setTop (mkF m 37 #[.val (.int i0), .val (.int i1), .val (.int (1 : Int32)), .val (.int (0 : Int32)), .val (.ref wJavaType_INTEGER), .unset, .unset, .unset, .unset] [(.int (0 : Int32))])) _
    refine XS.istore X1.here hx rfl (hb hby at_37) rfl (l' := #[.val (.int i0), .val (.int i1), .val (.int (1 : Int32)), .val (.int (0 : Int32)), .val (.ref wJavaType_INTEGER), .val (.int (0 : Int32)), .unset, .unset, .unset]) rfl ?_
    show Steps p.tables e below (T1.setTop (mkF m 39 #[.val (.int i0), .val (.int i1), .val (.int (1 : Int32)), .val (.int (0 : Int32)), .val (.ref wJavaType_INTEGER), .val (.int (0 : Int32)), .unset, .unset, .unset] [])) _
    refine XS.iconst X1.here hx rfl (hb hby at_39) ?_
    show Steps p.tables e below (T1.setTop (mkF m 40 #[.val (.int i0), .val (.int i1), .val (.int (1 : Int32)), .val (.int (0 : Int32)), .val (.ref wJavaType_INTEGER), .val (.int (0 : Int32)), .unset, .unset, .unset] [(.int (1 : Int32))])) _
    refine XS.istore X1.here hx rfl (hb hby at_40) rfl (l' := #[.val (.int i0), .val (.int i1), .val (.int (1 : Int32)), .val (.int (0 : Int32)), .val (.ref wJavaType_INTEGER), .val (.int (0 : Int32)), .val (.int (1 : Int32)), .unset, .unset]) rfl ?_
    show Steps p.tables e below (T1.setTop (mkF m 42 #[.val (.int i0), .val (.int i1), .val (.int (1 : Int32)), .val (.int (0 : Int32)), .val (.ref wJavaType_INTEGER), .val (.int (0 : Int32)), .val (.int (1 : Int32)), .unset, .unset] [])) _
    refine XS.goto X1.here hx rfl (pc0 := 42) (pc' := 75) rfl (hb hby at_42) (by decide) (by decide) ?_
    show Steps p.tables e below (T1.setTop (mkF m 75 #[.val (.int i0), .val (.int i1), .val (.int (1 : Int32)), .val (.int (0 : Int32)), .val (.ref wJavaType_INTEGER), .val (.int (0 : Int32)), .val (.int (1 : Int32)), .unset, .unset] [])) _
    refine XS.iloadN X1.here hx rfl (hb hby at_75) rfl ?_
    show Steps p.tables e below (T1.setTop (mkF m 76 #[.val (.int i0), .val (.int i1), .val (.int (1 : Int32)), .val (.int (0 : Int32)), .val (.ref wJavaType_INTEGER), .val (.int (0 : Int32)), .val (.int (1 : Int32)), .unset, .unset] [(.int (0 : Int32))])) _
    refine XS.ifNo X1.here hx rfl (hb hby at_76) rfl ((if0 _ _).trans (teq (by decide : (0 : Int32) = (0 : Int32))).2) ?_
    show Steps p.tables e below (T1.setTop (mkF m 79 #[.val (.int i0), .val (.int i1), .val (.int (1 : Int32)), .val (.int (0 : Int32)), .val (.ref wJavaType_INTEGER), .val (.int (0 : Int32)), .val (.int (1 : Int32)), .unset, .unset] [])) _
    refine st2 _ ?_
    show Steps p.tables e below (T2.setTop (mkF m 82 #[.val (.int i0), .val (.int i1), .val (.int (1 : Int32)), .val (.int (0 : Int32)), .val (.ref wJavaType_INTEGER), .val (.int (0 : Int32)), .val (.int (1 : Int32)), .unset, .unset] [(.ref wAttributeType_STRING)])) _
    refine XS.astore X2.here hx rfl (hb hby at_82) rfl rfl (l' := #[.val (.int i0), .val (.int i1), .val (.int (1 : Int32)), .val (.int (0 : Int32)), .val (.ref wJavaType_INTEGER), .val (.int (0 : Int32)), .val (.int (1 : Int32)), .val (.ref wAttributeType_STRING), .unset]) rfl ?_
    show Steps p.tables e below (T2.setTop (mkF m 84 #[.val (.int i0), .val (.int i1), .val (.int (1 : Int32)), .val (.int (0 : Int32)), .val (.ref wJavaType_INTEGER), .val (.int (0 : Int32)), .val (.int (1 : Int32)), .val (.ref wAttributeType_STRING), .unset] [])) _
    refine XS.iload X2.here hx rfl (hb hby at_84) rfl ?_
    show Steps p.tables e below (T2.setTop (mkF m 86 #[.val (.int i0), .val (.int i1), .val (.int (1 : Int32)), .val (.int (0 : Int32)), .val (.ref wJavaType_INTEGER), .val (.int (0 : Int32)), .val (.int (1 : Int32)), .val (.ref wAttributeType_STRING), .unset] [(.int (0 : Int32))])) _
    refine XS.istore X2.here hx rfl (hb hby at_86) rfl (l' := #[.val (.int i0), .val (.int i1), .val (.int (1 : Int32)), .val (.int (0 : Int32)), .val (.ref wJavaType_INTEGER), .val (.int (0 : Int32)), .val (.int (1 : Int32)), .val (.ref wAttributeType_STRING), .val (.int (0 : Int32))]) rfl ?_
    show Steps p.tables e below (T2.setTop (mkF m 88 #[.val (.int i0), .val (.int i1), .val (.int (1 : Int32)), .val (.int (0 : Int32)), .val (.ref wJavaType_INTEGER), .val (.int (0 : Int32)), .val (.int (1 : Int32)), .val (.ref wAttributeType_STRING), .val (.int (0 : Int32))] [])) _
    refine XS.goto X2.here hx rfl (pc0 := 88) (pc' := 100) rfl (hb hby at_88) (by decide) (by decide) ?_
    show Steps p.tables e below (T2.setTop (mkF m 100 #[.val (.int i0), .val (.int i1), .val (.int (1 : Int32)), .val (.int (0 : Int32)), .val (.ref wJavaType_INTEGER), .val (.int (0 : Int32)), .val (.int (1 : Int32)), .val (.ref wAttributeType_STRING), .val (.int (0 : Int32))] [])) _
    refine XS.aload X2.here hx rfl (hb hby at_100) rfl rfl ?_
    show Steps p.tables e below (T2.setTop (mkF m 102 #[.val (.int i0), .val (.int i1), .val (.int (1 : Int32)), .val (.int (0 : Int32)), .val (.ref wJavaType_INTEGER), .val (.int (0 : Int32)), .val (.int (1 : Int32)), .val (.ref wAttributeType_STRING), .val (.int (0 : Int32))] [(.ref wJavaType_INTEGER)])) _
    refine XS.aload X2.here hx rfl (hb hby at_102) rfl rfl ?_
    show Steps p.tables e below (T2.setTop (mkF m 104 #[.val (.int i0), .val (.int i1), .val (.int (1 : Int32)), .val (.int (0 : Int32)), .val (.ref wJavaType_INTEGER), .val (.int (0 : Int32)), .val (.int (1 : Int32)), .val (.ref wAttributeType_STRING), .val (.int (0 : Int32))] [(.ref wAttributeType_STRING), (.ref wJavaType_INTEGER)])) _
    refine st3.trans ?_
    show Steps p.tables e below (T3.setTop (mkF m 107 #[.val (.int i0), .val (.int i1), .val (.int (1 : Int32)), .val (.int (0 : Int32)), .val (.ref wJavaType_INTEGER), .val (.int (0 : Int32)), .val (.int (1 : Int32)), .val (.ref wAttributeType_STRING), .val (.int (0 : Int32))] [(.int (0 : Int32))])) _
    refine XS.iload X3.here hx rfl (hb hby at_107) rfl ?_
    show Steps p.tables e below (T3.setTop (mkF m 109 #[.val (.int i0), .val (.int i1), .val (.int (1 : Int32)), .val (.int (0 : Int32)), .val (.ref wJavaType_INTEGER), .val (.int (0 : Int32)), .val (.int (1 : Int32)), .val (.ref wAttributeType_STRING), .val (.int (0 : Int32))] [(.int (0 : Int32)), (.int (0 : Int32))])) _
    refine XS.icmpNo X3.here hx rfl (hb hby at_109) rfl (teq (by decide : (0 : Int32) = (0 : Int32))).2 ?_
    show Steps p.tables e below (T3.setTop (mkF m 112 #[.val (.int i0), .val (.int i1), .val (.int (1 : Int32)), .val (.int (0 : Int32)), .val (.ref wJavaType_INTEGER), .val (.int (0 : Int32)), .val (.int (1 : Int32)), .val (.ref wAttributeType_STRING), .val (.int (0 : Int32))] [])) _
    refine XS.iconst X3.here hx rfl (hb hby at_112) ?_
    show Steps p.tables e below (T3.setTop (mkF m 113 #[.val (.int i0), .val (.int i1), .val (.int (1 : Int32)), .val (.int (0 : Int32)), .val (.ref wJavaType_INTEGER), .val (.int (0 : Int32)), .val (.int (1 : Int32)), .val (.ref wAttributeType_STRING), .val (.int (0 : Int32))] [(.int (1 : Int32))])) _
    refine XS.goto X3.here hx rfl (pc0 := 113) (pc' := 117) rfl (hb hby at_113) (by decide) (by decide) ?_
    show Steps p.tables e below (T3.setTop (mkF m 117 #[.val (.int i0), .val (.int i1), .val (.int (1 : Int32)), .val (.int (0 : Int32)), .val (.ref wJavaType_INTEGER), .val (.int (0 : Int32)), .val (.int (1 : Int32)), .val (.ref wAttributeType_STRING), .val (.int (0 : Int32))] [(.int (1 : Int32))])) _
    exact retN X3 hx (t := .boolean) Bd.returns (by simp) (hb hby at_117) hr
  · exact ⟨rfl, N3, e3⟩
set_option maxRecDepth 65536 in
set_option maxHeartbeats 40000000 in
theorem own_r1_8 (l : Launch) (Z : State) (a0 : Array Value) (hw : ∀ d ∈ tables_1, d.before a0 Z = true) (ws : List Jvm.Cond) (wJavaType_STRING : Addr) (wAttributeType_NUMBER : Addr) (wJavaType_LONG : Addr) (wAttributeType_STRING : Addr) (wJavaType_INTEGER : Addr) (wJavaType_BIG_DECIMAL : Addr) (h0 : Heap) (n0 : Nat) (Z0 : n0 ≤ h0.size) (F : own_W Z h0 wJavaType_STRING wAttributeType_NUMBER wJavaType_LONG wAttributeType_STRING wJavaType_INTEGER wJavaType_BIG_DECIMAL)   :
    MetFree l (⟨"com/example/hesiod/hesiod/dynamodb/JavaType", "holds", "(Lcom/example/hesiod/hesiod/model/AttributeType;)Z"⟩ : MethodName) (head1 (Jvm.Cond.code (⟨"com/example/hesiod/hesiod/dynamodb/JavaType", "holds", "(Lcom/example/hesiod/hesiod/model/AttributeType;)Z"⟩ : MethodName) prog_3_method_5_code 2 (some .boolean) :: ws) ({ frames := 0, cells := 0, slots := 0, locals := 0 } : Room)) (fun a U => a = #[(.ref wJavaType_INTEGER), (.ref wAttributeType_NUMBER)] ∧ Z.Warmed39 U.vm ∧ U.heap = h0) (fun _ _ _ _ _ => True) (fun _ U o U' => ∃ v L, o = .returned v ∧ own_Q (.int (1 : Int32)) h0 n0 v U'.heap L ∧ FrameEnd U o U' L ({ frames := 0, cells := 0, slots := 0, locals := 0 } : Room).cells ({ frames := 0, cells := 0, slots := 0, locals := 0 } : Room).slots) := by
  obtain ⟨S_wJavaType_STRING, E_wJavaType_STRING, S_wAttributeType_NUMBER, E_wAttributeType_NUMBER, S_wJavaType_LONG, E_wJavaType_LONG, S_wAttributeType_STRING, E_wAttributeType_STRING, S_wJavaType_INTEGER, E_wJavaType_INTEGER, S_wJavaType_BIG_DECIMAL, E_wJavaType_BIG_DECIMAL, F_wJavaType_LONG_ordinal, F_wJavaType_STRING_ordinal, F_wJavaType_INTEGER_ordinal, F_wAttributeType_STRING_ordinal, F_wAttributeType_NUMBER_ordinal, F_wJavaType_BIG_DECIMAL_ordinal, ne_wJavaType_STRING_wJavaType_LONG, ne_wJavaType_STRING_wJavaType_INTEGER, ne_wJavaType_STRING_wJavaType_BIG_DECIMAL, ne_wAttributeType_NUMBER_wAttributeType_STRING, ne_wJavaType_LONG_wJavaType_INTEGER, ne_wJavaType_LONG_wJavaType_BIG_DECIMAL, ne_wJavaType_INTEGER_wJavaType_BIG_DECIMAL⟩ := id F
  refine MetFree.of_bodySF (plainFor_of_name own_pn_JavaType) hisR ?_
  intro p e s m args below meth c s₁ Bd hml0 hP hK
  obtain ⟨rfl, hZ, hh⟩ := hP
  have hx := Bd.exec
  have hby := Bd.bytes
  have hml : c.maxLocals = 2 := hml0
  have hown : s.vm.findClass "com/example/hesiod/hesiod/dynamodb/JavaType" = some m.cls := findClass_of_methodNamed Bd.named
  have X0 : Stand p l e ({ frames := 0, cells := 0, slots := 0, locals := 0 } : Room) s m #[(.ref wJavaType_INTEGER), (.ref wAttributeType_NUMBER)] below meth c s₁ [] 0 0 := Stand.of_body Bd
  have e0 : s₁.heap = h0 := by rw [← hh, Bd.state]; rfl
  have N0 := Fr.nil n0
  have pre0 : ∀ t, Steps p.tables e below (s₁.setTop (mkF m 0 #[.val (.ref wJavaType_INTEGER), .val (.ref wAttributeType_NUMBER)] [])) t → Steps p.tables e below (s₁.setTop (entryFrame m #[(.ref wJavaType_INTEGER), (.ref wAttributeType_NUMBER)] 2)) t := fun t k => castTop (own_ef1_RR m wJavaType_INTEGER wAttributeType_NUMBER) k
  obtain ⟨T1, X1, e1, st1⟩ := getS2 X0 hx hZ hown (host := "") (Or.inl (hw _ (List.mem_of_getElem? (i := 11) rfl))) Via.refl e0 S_wJavaType_STRING (g := (mkF m 1 #[.val (.ref wJavaType_INTEGER), .val (.ref wAttributeType_NUMBER)] [(.ref wJavaType_INTEGER)])) rfl (hb hby own_d1_1)
  obtain ⟨T2, X2, e2, st2⟩ := getS2 X1 hx hZ hown (host := "") (Or.inl (hw _ (List.mem_of_getElem? (i := 14) rfl))) Via.refl e1 S_wAttributeType_NUMBER (g := (mkF m 8 #[.val (.ref wJavaType_INTEGER), .val (.ref wAttributeType_NUMBER)] [(.ref wAttributeType_NUMBER)])) rfl (hb hby own_d1_8)
  obtain ⟨fs, hr, hrun, hended, hW, hsame⟩ := X2.leave (v := some (.int (1 : Int32))) (fun h => by rw [Bd.returns] at h; cases h)
  refine ⟨_, _, pre0 _ ?_, hrun, hended, _, _, rfl, ?_, ⟨_, rfl⟩, hW, hsame.mono (by decide) (by decide)⟩
  · show Steps p.tables e below (s₁.setTop (mkF m 0 #[.val (.ref wJavaType_INTEGER), .val (.ref wAttributeType_NUMBER)] [])) _
    refine XS.aloadN X0.here hx rfl (hb hby own_d1_0) rfl rfl ?_
    show Steps p.tables e below (s₁.setTop (mkF m 1 #[.val (.ref wJavaType_INTEGER), .val (.ref wAttributeType_NUMBER)] [(.ref wJavaType_INTEGER)])) _
    refine st1 _ ?_
    show Steps p.tables e below (T1.setTop (mkF m 4 #[.val (.ref wJavaType_INTEGER), .val (.ref wAttributeType_NUMBER)] [(.ref wJavaType_STRING), (.ref wJavaType_INTEGER)])) _
    refine Jvm.RoadKit.acmp (g := (mkF m 4 #[.val (.ref wJavaType_INTEGER), .val (.ref wAttributeType_NUMBER)] [(.ref wJavaType_STRING), (.ref wJavaType_INTEGER)])) X1 hx rfl rfl rfl (pc0 := 4) (pc' := 7) (same := false) rfl (hb hby own_d1_4) rfl (decide_eq_false fun q => (Ne.symm ne_wJavaType_STRING_wJavaType_INTEGER) (Value.ref.inj q)) (by decide) (by decide) ?_
    show Steps p.tables e below (T1.setTop (mkF m 7 #[.val (.ref wJavaType_INTEGER), .val (.ref wAttributeType_NUMBER)] [])) _
    refine XS.aloadN X1.here hx rfl (hb hby own_d1_7) rfl rfl ?_
    show Steps p.tables e below (T1.setTop (mkF m 8 #[.val (.ref wJavaType_INTEGER), .val (.ref wAttributeType_NUMBER)] [(.ref wAttributeType_NUMBER)])) _
    refine st2 _ ?_
    show Steps p.tables e below (T2.setTop (mkF m 11 #[.val (.ref wJavaType_INTEGER), .val (.ref wAttributeType_NUMBER)] [(.ref wAttributeType_NUMBER), (.ref wAttributeType_NUMBER)])) _
    refine Jvm.RoadKit.acmp (g := (mkF m 11 #[.val (.ref wJavaType_INTEGER), .val (.ref wAttributeType_NUMBER)] [(.ref wAttributeType_NUMBER), (.ref wAttributeType_NUMBER)])) X2 hx rfl rfl rfl (pc0 := 11) (pc' := 14) (same := true) rfl (hb hby own_d1_11) rfl (decide_eq_true rfl) (by decide) (by decide) ?_
    show Steps p.tables e below (T2.setTop (mkF m 14 #[.val (.ref wJavaType_INTEGER), .val (.ref wAttributeType_NUMBER)] [])) _
    refine XS.iconst X2.here hx rfl (hb hby own_d1_14) ?_
    show Steps p.tables e below (T2.setTop (mkF m 15 #[.val (.ref wJavaType_INTEGER), .val (.ref wAttributeType_NUMBER)] [(.int (1 : Int32))])) _
    refine XS.goto X2.here hx rfl (pc0 := 15) (pc' := 19) rfl (hb hby own_d1_15) (by decide) (by decide) ?_
    show Steps p.tables e below (T2.setTop (mkF m 19 #[.val (.ref wJavaType_INTEGER), .val (.ref wAttributeType_NUMBER)] [(.int (1 : Int32))])) _
    exact retN X2 hx (t := .boolean) Bd.returns (by simp) (hb hby own_d1_19) hr
  · exact ⟨rfl, N0, e2⟩
set_option maxRecDepth 65536 in
set_option maxHeartbeats 40000000 in
theorem own_r0_t1a1 (l : Launch) (Z : State) (a0 : Array Value) (hw : ∀ d ∈ tables_1, d.before a0 Z = true) (ws : List Jvm.Cond) (wJavaType_STRING : Addr) (wAttributeType_NUMBER : Addr) (wJavaType_LONG : Addr) (wAttributeType_STRING : Addr) (wJavaType_INTEGER : Addr) (wJavaType_BIG_DECIMAL : Addr) (h0 : Heap) (n0 : Nat) (Z0 : n0 ≤ h0.size) (F : own_W Z h0 wJavaType_STRING wAttributeType_NUMBER wJavaType_LONG wAttributeType_STRING wJavaType_INTEGER wJavaType_BIG_DECIMAL) (i0 : Int32) (i1 : Int32) (ht : (i0 &&& (3 : Int32)) = (1 : Int32)) (ha : (i1 &&& (1 : Int32)) = (1 : Int32)) :
    MetFree l x (head1 (Jvm.Cond.code x code maxLocals ret :: ws) room_1) (fun a U => a = #[(.int i0), (.int i1)] ∧ Z.Warmed39 U.vm ∧ U.heap = h0) (fun _ _ _ _ _ => True) (fun _ U o U' => ∃ v L, o = .returned v ∧ own_Q (.int (1 : Int32)) h0 n0 v U'.heap L ∧ FrameEnd U o U' L room_1.cells room_1.slots) := by
  obtain ⟨S_wJavaType_STRING, E_wJavaType_STRING, S_wAttributeType_NUMBER, E_wAttributeType_NUMBER, S_wJavaType_LONG, E_wJavaType_LONG, S_wAttributeType_STRING, E_wAttributeType_STRING, S_wJavaType_INTEGER, E_wJavaType_INTEGER, S_wJavaType_BIG_DECIMAL, E_wJavaType_BIG_DECIMAL, F_wJavaType_LONG_ordinal, F_wJavaType_STRING_ordinal, F_wJavaType_INTEGER_ordinal, F_wAttributeType_STRING_ordinal, F_wAttributeType_NUMBER_ordinal, F_wJavaType_BIG_DECIMAL_ordinal, ne_wJavaType_STRING_wJavaType_LONG, ne_wJavaType_STRING_wJavaType_INTEGER, ne_wJavaType_STRING_wJavaType_BIG_DECIMAL, ne_wAttributeType_NUMBER_wAttributeType_STRING, ne_wJavaType_LONG_wJavaType_INTEGER, ne_wJavaType_LONG_wJavaType_BIG_DECIMAL, ne_wJavaType_INTEGER_wJavaType_BIG_DECIMAL⟩ := id F
  refine MetFree.of_bodySF (plainFor_of_name own_pn_JavaTypeHoldsPinLaw) hisR ?_
  intro p e s m args below meth c s₁ Bd hml0 hP hK
  obtain ⟨rfl, hZ, hh⟩ := hP
  have hx := Bd.exec
  have hby := Bd.bytes
  have hml : c.maxLocals = 9 := hml0
  have hown : s.vm.findClass "com/example/hesiod/hesiod/dynamodb/JavaTypeHoldsPinLaw" = some m.cls := findClass_of_methodNamed Bd.named
  have X0 : Stand p l e room_1 s m #[(.int i0), (.int i1)] below meth c s₁ [] 0 0 := Stand.of_body Bd
  have e0 : s₁.heap = h0 := by rw [← hh, Bd.state]; rfl
  have N0 := Fr.nil n0
  have pre0 : ∀ t, Steps p.tables e below (s₁.setTop (mkF m 0 #[.val (.int i0), .val (.int i1), .unset, .unset, .unset, .unset, .unset, .unset, .unset] [])) t → Steps p.tables e below (s₁.setTop (entryFrame m #[(.int i0), (.int i1)] maxLocals)) t := fun t k => castTop (own_ef0_II m i0 i1) k
  obtain ⟨T1, X1, e1, st1⟩ := getS2 X0 hx hZ hown (host := "") (Or.inl (hw _ (List.mem_of_getElem? (i := 17) rfl))) Via.refl e0 S_wJavaType_INTEGER (g := (mkF m 31 #[.val (.int i0), .val (.int i1), .val (.int (1 : Int32)), .val (.int (1 : Int32)), .unset, .unset, .unset, .unset, .unset] [])) rfl (hb hby at_31)
  obtain ⟨T2, X2, e2, st2⟩ := getS2 X1 hx hZ hown (host := "") (Or.inl (hw _ (List.mem_of_getElem? (i := 3) rfl))) Via.refl e1 S_wAttributeType_NUMBER (g := (mkF m 91 #[.val (.int i0), .val (.int i1), .val (.int (1 : Int32)), .val (.int (1 : Int32)), .val (.ref wJavaType_INTEGER), .val (.int (0 : Int32)), .val (.int (1 : Int32)), .unset, .unset] [])) rfl (hb hby at_91)
  obtain ⟨cq3, kq3, q3a, q3b, q3c⟩ := isOf hZ e2 E_wJavaType_INTEGER
  obtain ⟨_, _, ⟨T3, L3, k3, n3⟩, -, X3, ⟨Lc3, hQ3, l3, y3, z3⟩, st3⟩ := X2.virtualBack hx (y := (⟨"com/example/hesiod/hesiod/dynamodb/JavaType", "holds", "(Lcom/example/hesiod/hesiod/model/AttributeType;)Z"⟩ : MethodName)) (z := (⟨"com/example/hesiod/hesiod/dynamodb/JavaType", "holds", "(Lcom/example/hesiod/hesiod/model/AttributeType;)Z"⟩ : MethodName)) hown (mvT hZ (hw _ (List.mem_of_getElem? (i := 6) rfl))) (mvT hZ (hw _ (List.mem_of_getElem? (i := 7) rfl))) (notFace_of_selects (args := #[]) (mvT hZ (hw _ (List.mem_of_getElem? (i := 9) rfl)))) (mvT hZ (hw _ (List.mem_of_getElem? (i := 9) rfl))) (mvT hZ (hw _ (List.mem_of_getElem? (i := 8) rfl))) (by decide) (backOf (W := 0) (own_r1_8 l Z a0 hw [] wJavaType_STRING wAttributeType_NUMBER wJavaType_LONG wAttributeType_STRING wJavaType_INTEGER wJavaType_BIG_DECIMAL h0 n0 Z0 F ) hZ (hw _ (List.mem_of_getElem? (i := 10) rfl)) (hw _ (List.mem_of_getElem? (i := 1) rfl)) (by decide) (by decide)) q3a q3c (g := (mkF m 104 #[.val (.int i0), .val (.int i1), .val (.int (1 : Int32)), .val (.int (1 : Int32)), .val (.ref wJavaType_INTEGER), .val (.int (0 : Int32)), .val (.int (1 : Int32)), .val (.ref wAttributeType_NUMBER), .val (.int (1 : Int32))] [(.ref wAttributeType_NUMBER), (.ref wJavaType_INTEGER)])) rfl (by rw [hml]; rfl) (Steps.refl _) (argsL := [(.ref wAttributeType_NUMBER)]) (rest := []) (lenOf own_pd0 rfl) rfl (by show 2 * 0 + _ ≤ _; exact Nat.le_of_eq rfl) (hb hby at_104) (fun _ _ => ⟨rfl, e2, (by decide : 0 + 0 ≤ _), (by decide : 0 + 0 ≤ _)⟩)
  dsimp only [Pt.U, Pt.locs, Pt.cells, Pt.slots] at X3 l3 y3 z3 st3 hQ3
  subst l3 y3 z3
  obtain ⟨rfl, N3q, e3⟩ := hQ3
  have N3 := Fr.app N0 N3q
  obtain ⟨fs, hr, hrun, hended, hW, hsame⟩ := X3.leave (v := some (.int (1 : Int32))) (fun h => by rw [Bd.returns] at h; cases h)
  refine ⟨_, _, pre0 _ ?_, hrun, hended, _, _, rfl, ?_, ⟨_, rfl⟩, hW, hsame.mono (by decide) (by decide)⟩
  · show Steps p.tables e below (s₁.setTop (mkF m 0 #[.val (.int i0), .val (.int i1), .unset, .unset, .unset, .unset, .unset, .unset, .unset] [])) _
    refine XS.iloadN X0.here hx rfl (hb hby at_0) rfl ?_
    show Steps p.tables e below (s₁.setTop (mkF m 1 #[.val (.int i0), .val (.int i1), .unset, .unset, .unset, .unset, .unset, .unset, .unset] [(.int i0)])) _
    refine XS.iconst X0.here hx rfl (hb hby at_1) ?_
    show Steps p.tables e below (s₁.setTop (mkF m 2 #[.val (.int i0), .val (.int i1), .unset, .unset, .unset, .unset, .unset, .unset, .unset] [(.int (3 : Int32)), (.int i0)])) _
    refine XS.iand X0.here hx rfl (hb hby at_2) rfl ?_
    show Steps p.tables e below (s₁.setTop (mkF m 3 #[.val (.int i0), .val (.int i1), .unset, .unset, .unset, .unset, .unset, .unset, .unset] [(.int (i0 &&& (3 : Int32)))])) _
    rw [ht]
    show Steps p.tables e below (s₁.setTop (mkF m 3 #[.val (.int i0), .val (.int i1), .unset, .unset, .unset, .unset, .unset, .unset, .unset] [(.int (1 : Int32))])) _
    refine XS.istoreN X0.here hx rfl (hb hby at_3) rfl (l' := #[.val (.int i0), .val (.int i1), .val (.int (1 : Int32)), .unset, .unset, .unset, .unset, .unset, .unset]) rfl ?_
    show Steps p.tables e below (s₁.setTop (mkF m 4 #[.val (.int i0), .val (.int i1), .val (.int (1 : Int32)), .unset, .unset, .unset, .unset, .unset, .unset] [])) _
    refine XS.iloadN X0.here hx rfl (hb hby at_4) rfl ?_
    show Steps p.tables e below (s₁.setTop (mkF m 5 #[.val (.int i0), .val (.int i1), .val (.int (1 : Int32)), .unset, .unset, .unset, .unset, .unset, .unset] [(.int i1)])) _
    refine XS.iconst X0.here hx rfl (hb hby at_5) ?_
    show Steps p.tables e below (s₁.setTop (mkF m 6 #[.val (.int i0), .val (.int i1), .val (.int (1 : Int32)), .unset, .unset, .unset, .unset, .unset, .unset] [(.int (1 : Int32)), (.int i1)])) _
    refine XS.iand X0.here hx rfl (hb hby at_6) rfl ?_
    show Steps p.tables e below (s₁.setTop (mkF m 7 #[.val (.int i0), .val (.int i1), .val (.int (1 : Int32)), .unset, .unset, .unset, .unset, .unset, .unset] [(.int (i1 &&& (1 : Int32)))])) _
    rw [ha]
    show Steps p.tables e below (s₁.setTop (mkF m 7 #[.val (.int i0), .val (.int i1), .val (.int (1 : Int32)), .unset, .unset, .unset, .unset, .unset, .unset] [(.int (1 : Int32))])) _
    refine XS.istoreN X0.here hx rfl (hb hby at_7) rfl (l' := #[.val (.int i0), .val (.int i1), .val (.int (1 : Int32)), .val (.int (1 : Int32)), .unset, .unset, .unset, .unset, .unset]) rfl ?_
    show Steps p.tables e below (s₁.setTop (mkF m 8 #[.val (.int i0), .val (.int i1), .val (.int (1 : Int32)), .val (.int (1 : Int32)), .unset, .unset, .unset, .unset, .unset] [])) _
    refine XS.iloadN X0.here hx rfl (hb hby at_8) rfl ?_
    show Steps p.tables e below (s₁.setTop (mkF m 9 #[.val (.int i0), .val (.int i1), .val (.int (1 : Int32)), .val (.int (1 : Int32)), .unset, .unset, .unset, .unset, .unset] [(.int (1 : Int32))])) _
    refine XS.ifYes X0.here hx rfl (pc0 := 9) (pc' := 26) rfl (hb hby at_9) rfl ((if0 _ _).trans (feq (by decide : ¬ ((1 : Int32) = (0 : Int32)))).2) (by decide) (by decide) ?_
    show Steps p.tables e below (s₁.setTop (mkF m 26 #[.val (.int i0), .val (.int i1), .val (.int (1 : Int32)), .val (.int (1 : Int32)), .unset, .unset, .unset, .unset, .unset] [])) _
    refine XS.iloadN X0.here hx rfl (hb hby at_26) rfl ?_
    show Steps p.tables e below (s₁.setTop (mkF m 27 #[.val (.int i0), .val (.int i1), .val (.int (1 : Int32)), .val (.int (1 : Int32)), .unset, .unset, .unset, .unset, .unset] [(.int (1 : Int32))])) _
    refine XS.iconst X0.here hx rfl (hb hby at_27) ?_
    show Steps p.tables e below (s₁.setTop (mkF m 28 #[.val (.int i0), .val (.int i1), .val (.int (1 : Int32)), .val (.int (1 : Int32)), .unset, .unset, .unset, .unset, .unset] [(.int (1 : Int32)), (.int (1 : Int32))])) _
    refine XS.icmpNo X0.here hx rfl (hb hby at_28) rfl (teq (by decide : (1 : Int32) = (1 : Int32))).2 ?_
    show Steps p.tables e below (s₁.setTop (mkF m 31 #[.val (.int i0), .val (.int i1), .val (.int (1 : Int32)), .val (.int (1 : Int32)), .unset, .unset, .unset, .unset, .unset] [])) _
    refine st1 _ ?_
    show Steps p.tables e below (T1.setTop (mkF m 34 #[.val (.int i0), .val (.int i1), .val (.int (1 : Int32)), .val (.int (1 : Int32)), .unset, .unset, .unset, .unset, .unset] [(.ref wJavaType_INTEGER)])) _
    refine XS.astore X1.here hx rfl (hb hby at_34) rfl rfl (l' := #[.val (.int i0), .val (.int i1), .val (.int (1 : Int32)), .val (.int (1 : Int32)), .val (.ref wJavaType_INTEGER), .unset, .unset, .unset, .unset]) rfl ?_
    show Steps p.tables e below (T1.setTop (mkF m 36 #[.val (.int i0), .val (.int i1), .val (.int (1 : Int32)), .val (.int (1 : Int32)), .val (.ref wJavaType_INTEGER), .unset, .unset, .unset, .unset] [])) _
    refine XS.iconst X1.here hx rfl (hb hby at_36) ?_
    show Steps p.tables e below (T1.setTop (mkF m 37 #[.val (.int i0), .val (.int i1), .val (.int (1 : Int32)), .val (.int (1 : Int32)), .val (.ref wJavaType_INTEGER), .unset, .unset, .unset, .unset] [(.int (0 : Int32))])) _
    refine XS.istore X1.here hx rfl (hb hby at_37) rfl (l' := #[.val (.int i0), .val (.int i1), .val (.int (1 : Int32)), .val (.int (1 : Int32)), .val (.ref wJavaType_INTEGER), .val (.int (0 : Int32)), .unset, .unset, .unset]) rfl ?_
    show Steps p.tables e below (T1.setTop (mkF m 39 #[.val (.int i0), .val (.int i1), .val (.int (1 : Int32)), .val (.int (1 : Int32)), .val (.ref wJavaType_INTEGER), .val (.int (0 : Int32)), .unset, .unset, .unset] [])) _
    refine XS.iconst X1.here hx rfl (hb hby at_39) ?_
    show Steps p.tables e below (T1.setTop (mkF m 40 #[.val (.int i0), .val (.int i1), .val (.int (1 : Int32)), .val (.int (1 : Int32)), .val (.ref wJavaType_INTEGER), .val (.int (0 : Int32)), .unset, .unset, .unset] [(.int (1 : Int32))])) _
    refine XS.istore X1.here hx rfl (hb hby at_40) rfl (l' := #[.val (.int i0), .val (.int i1), .val (.int (1 : Int32)), .val (.int (1 : Int32)), .val (.ref wJavaType_INTEGER), .val (.int (0 : Int32)), .val (.int (1 : Int32)), .unset, .unset]) rfl ?_
    show Steps p.tables e below (T1.setTop (mkF m 42 #[.val (.int i0), .val (.int i1), .val (.int (1 : Int32)), .val (.int (1 : Int32)), .val (.ref wJavaType_INTEGER), .val (.int (0 : Int32)), .val (.int (1 : Int32)), .unset, .unset] [])) _
    refine XS.goto X1.here hx rfl (pc0 := 42) (pc' := 75) rfl (hb hby at_42) (by decide) (by decide) ?_
    show Steps p.tables e below (T1.setTop (mkF m 75 #[.val (.int i0), .val (.int i1), .val (.int (1 : Int32)), .val (.int (1 : Int32)), .val (.ref wJavaType_INTEGER), .val (.int (0 : Int32)), .val (.int (1 : Int32)), .unset, .unset] [])) _
    refine XS.iloadN X1.here hx rfl (hb hby at_75) rfl ?_
    show Steps p.tables e below (T1.setTop (mkF m 76 #[.val (.int i0), .val (.int i1), .val (.int (1 : Int32)), .val (.int (1 : Int32)), .val (.ref wJavaType_INTEGER), .val (.int (0 : Int32)), .val (.int (1 : Int32)), .unset, .unset] [(.int (1 : Int32))])) _
    refine XS.ifYes X1.here hx rfl (pc0 := 76) (pc' := 91) rfl (hb hby at_76) rfl ((if0 _ _).trans (feq (by decide : ¬ ((1 : Int32) = (0 : Int32)))).2) (by decide) (by decide) ?_
    show Steps p.tables e below (T1.setTop (mkF m 91 #[.val (.int i0), .val (.int i1), .val (.int (1 : Int32)), .val (.int (1 : Int32)), .val (.ref wJavaType_INTEGER), .val (.int (0 : Int32)), .val (.int (1 : Int32)), .unset, .unset] [])) _
    refine st2 _ ?_
    show Steps p.tables e below (T2.setTop (mkF m 94 #[.val (.int i0), .val (.int i1), .val (.int (1 : Int32)), .val (.int (1 : Int32)), .val (.ref wJavaType_INTEGER), .val (.int (0 : Int32)), .val (.int (1 : Int32)), .unset, .unset] [(.ref wAttributeType_NUMBER)])) _
    refine XS.astore X2.here hx rfl (hb hby at_94) rfl rfl (l' := #[.val (.int i0), .val (.int i1), .val (.int (1 : Int32)), .val (.int (1 : Int32)), .val (.ref wJavaType_INTEGER), .val (.int (0 : Int32)), .val (.int (1 : Int32)), .val (.ref wAttributeType_NUMBER), .unset]) rfl ?_
    show Steps p.tables e below (T2.setTop (mkF m 96 #[.val (.int i0), .val (.int i1), .val (.int (1 : Int32)), .val (.int (1 : Int32)), .val (.ref wJavaType_INTEGER), .val (.int (0 : Int32)), .val (.int (1 : Int32)), .val (.ref wAttributeType_NUMBER), .unset] [])) _
    refine XS.iload X2.here hx rfl (hb hby at_96) rfl ?_
    show Steps p.tables e below (T2.setTop (mkF m 98 #[.val (.int i0), .val (.int i1), .val (.int (1 : Int32)), .val (.int (1 : Int32)), .val (.ref wJavaType_INTEGER), .val (.int (0 : Int32)), .val (.int (1 : Int32)), .val (.ref wAttributeType_NUMBER), .unset] [(.int (1 : Int32))])) _
    refine XS.istore X2.here hx rfl (hb hby at_98) rfl (l' := #[.val (.int i0), .val (.int i1), .val (.int (1 : Int32)), .val (.int (1 : Int32)), .val (.ref wJavaType_INTEGER), .val (.int (0 : Int32)), .val (.int (1 : Int32)), .val (.ref wAttributeType_NUMBER), .val (.int (1 : Int32))]) rfl ?_
    show Steps p.tables e below (T2.setTop (mkF m 100 #[.val (.int i0), .val (.int i1), .val (.int (1 : Int32)), .val (.int (1 : Int32)), .val (.ref wJavaType_INTEGER), .val (.int (0 : Int32)), .val (.int (1 : Int32)), .val (.ref wAttributeType_NUMBER), .val (.int (1 : Int32))] [])) _
    refine XS.aload X2.here hx rfl (hb hby at_100) rfl rfl ?_
    show Steps p.tables e below (T2.setTop (mkF m 102 #[.val (.int i0), .val (.int i1), .val (.int (1 : Int32)), .val (.int (1 : Int32)), .val (.ref wJavaType_INTEGER), .val (.int (0 : Int32)), .val (.int (1 : Int32)), .val (.ref wAttributeType_NUMBER), .val (.int (1 : Int32))] [(.ref wJavaType_INTEGER)])) _
    refine XS.aload X2.here hx rfl (hb hby at_102) rfl rfl ?_
    show Steps p.tables e below (T2.setTop (mkF m 104 #[.val (.int i0), .val (.int i1), .val (.int (1 : Int32)), .val (.int (1 : Int32)), .val (.ref wJavaType_INTEGER), .val (.int (0 : Int32)), .val (.int (1 : Int32)), .val (.ref wAttributeType_NUMBER), .val (.int (1 : Int32))] [(.ref wAttributeType_NUMBER), (.ref wJavaType_INTEGER)])) _
    refine st3.trans ?_
    show Steps p.tables e below (T3.setTop (mkF m 107 #[.val (.int i0), .val (.int i1), .val (.int (1 : Int32)), .val (.int (1 : Int32)), .val (.ref wJavaType_INTEGER), .val (.int (0 : Int32)), .val (.int (1 : Int32)), .val (.ref wAttributeType_NUMBER), .val (.int (1 : Int32))] [(.int (1 : Int32))])) _
    refine XS.iload X3.here hx rfl (hb hby at_107) rfl ?_
    show Steps p.tables e below (T3.setTop (mkF m 109 #[.val (.int i0), .val (.int i1), .val (.int (1 : Int32)), .val (.int (1 : Int32)), .val (.ref wJavaType_INTEGER), .val (.int (0 : Int32)), .val (.int (1 : Int32)), .val (.ref wAttributeType_NUMBER), .val (.int (1 : Int32))] [(.int (1 : Int32)), (.int (1 : Int32))])) _
    refine XS.icmpNo X3.here hx rfl (hb hby at_109) rfl (teq (by decide : (1 : Int32) = (1 : Int32))).2 ?_
    show Steps p.tables e below (T3.setTop (mkF m 112 #[.val (.int i0), .val (.int i1), .val (.int (1 : Int32)), .val (.int (1 : Int32)), .val (.ref wJavaType_INTEGER), .val (.int (0 : Int32)), .val (.int (1 : Int32)), .val (.ref wAttributeType_NUMBER), .val (.int (1 : Int32))] [])) _
    refine XS.iconst X3.here hx rfl (hb hby at_112) ?_
    show Steps p.tables e below (T3.setTop (mkF m 113 #[.val (.int i0), .val (.int i1), .val (.int (1 : Int32)), .val (.int (1 : Int32)), .val (.ref wJavaType_INTEGER), .val (.int (0 : Int32)), .val (.int (1 : Int32)), .val (.ref wAttributeType_NUMBER), .val (.int (1 : Int32))] [(.int (1 : Int32))])) _
    refine XS.goto X3.here hx rfl (pc0 := 113) (pc' := 117) rfl (hb hby at_113) (by decide) (by decide) ?_
    show Steps p.tables e below (T3.setTop (mkF m 117 #[.val (.int i0), .val (.int i1), .val (.int (1 : Int32)), .val (.int (1 : Int32)), .val (.ref wJavaType_INTEGER), .val (.int (0 : Int32)), .val (.int (1 : Int32)), .val (.ref wAttributeType_NUMBER), .val (.int (1 : Int32))] [(.int (1 : Int32))])) _
    exact retN X3 hx (t := .boolean) Bd.returns (by simp) (hb hby at_117) hr
  · exact ⟨rfl, N3, e3⟩
set_option maxRecDepth 65536 in
set_option maxHeartbeats 40000000 in
theorem own_r1_10 (l : Launch) (Z : State) (a0 : Array Value) (hw : ∀ d ∈ tables_1, d.before a0 Z = true) (ws : List Jvm.Cond) (wJavaType_STRING : Addr) (wAttributeType_NUMBER : Addr) (wJavaType_LONG : Addr) (wAttributeType_STRING : Addr) (wJavaType_INTEGER : Addr) (wJavaType_BIG_DECIMAL : Addr) (h0 : Heap) (n0 : Nat) (Z0 : n0 ≤ h0.size) (F : own_W Z h0 wJavaType_STRING wAttributeType_NUMBER wJavaType_LONG wAttributeType_STRING wJavaType_INTEGER wJavaType_BIG_DECIMAL)   :
    MetFree l (⟨"com/example/hesiod/hesiod/dynamodb/JavaType", "holds", "(Lcom/example/hesiod/hesiod/model/AttributeType;)Z"⟩ : MethodName) (head1 (Jvm.Cond.code (⟨"com/example/hesiod/hesiod/dynamodb/JavaType", "holds", "(Lcom/example/hesiod/hesiod/model/AttributeType;)Z"⟩ : MethodName) prog_3_method_5_code 2 (some .boolean) :: ws) ({ frames := 0, cells := 0, slots := 0, locals := 0 } : Room)) (fun a U => a = #[(.ref wJavaType_LONG), (.ref wAttributeType_STRING)] ∧ Z.Warmed39 U.vm ∧ U.heap = h0) (fun _ _ _ _ _ => True) (fun _ U o U' => ∃ v L, o = .returned v ∧ own_Q (.int (0 : Int32)) h0 n0 v U'.heap L ∧ FrameEnd U o U' L ({ frames := 0, cells := 0, slots := 0, locals := 0 } : Room).cells ({ frames := 0, cells := 0, slots := 0, locals := 0 } : Room).slots) := by
  obtain ⟨S_wJavaType_STRING, E_wJavaType_STRING, S_wAttributeType_NUMBER, E_wAttributeType_NUMBER, S_wJavaType_LONG, E_wJavaType_LONG, S_wAttributeType_STRING, E_wAttributeType_STRING, S_wJavaType_INTEGER, E_wJavaType_INTEGER, S_wJavaType_BIG_DECIMAL, E_wJavaType_BIG_DECIMAL, F_wJavaType_LONG_ordinal, F_wJavaType_STRING_ordinal, F_wJavaType_INTEGER_ordinal, F_wAttributeType_STRING_ordinal, F_wAttributeType_NUMBER_ordinal, F_wJavaType_BIG_DECIMAL_ordinal, ne_wJavaType_STRING_wJavaType_LONG, ne_wJavaType_STRING_wJavaType_INTEGER, ne_wJavaType_STRING_wJavaType_BIG_DECIMAL, ne_wAttributeType_NUMBER_wAttributeType_STRING, ne_wJavaType_LONG_wJavaType_INTEGER, ne_wJavaType_LONG_wJavaType_BIG_DECIMAL, ne_wJavaType_INTEGER_wJavaType_BIG_DECIMAL⟩ := id F
  refine MetFree.of_bodySF (plainFor_of_name own_pn_JavaType) hisR ?_
  intro p e s m args below meth c s₁ Bd hml0 hP hK
  obtain ⟨rfl, hZ, hh⟩ := hP
  have hx := Bd.exec
  have hby := Bd.bytes
  have hml : c.maxLocals = 2 := hml0
  have hown : s.vm.findClass "com/example/hesiod/hesiod/dynamodb/JavaType" = some m.cls := findClass_of_methodNamed Bd.named
  have X0 : Stand p l e ({ frames := 0, cells := 0, slots := 0, locals := 0 } : Room) s m #[(.ref wJavaType_LONG), (.ref wAttributeType_STRING)] below meth c s₁ [] 0 0 := Stand.of_body Bd
  have e0 : s₁.heap = h0 := by rw [← hh, Bd.state]; rfl
  have N0 := Fr.nil n0
  have pre0 : ∀ t, Steps p.tables e below (s₁.setTop (mkF m 0 #[.val (.ref wJavaType_LONG), .val (.ref wAttributeType_STRING)] [])) t → Steps p.tables e below (s₁.setTop (entryFrame m #[(.ref wJavaType_LONG), (.ref wAttributeType_STRING)] 2)) t := fun t k => castTop (own_ef1_RR m wJavaType_LONG wAttributeType_STRING) k
  obtain ⟨T1, X1, e1, st1⟩ := getS2 X0 hx hZ hown (host := "") (Or.inl (hw _ (List.mem_of_getElem? (i := 11) rfl))) Via.refl e0 S_wJavaType_STRING (g := (mkF m 1 #[.val (.ref wJavaType_LONG), .val (.ref wAttributeType_STRING)] [(.ref wJavaType_LONG)])) rfl (hb hby own_d1_1)
  obtain ⟨T2, X2, e2, st2⟩ := getS2 X1 hx hZ hown (host := "") (Or.inl (hw _ (List.mem_of_getElem? (i := 14) rfl))) Via.refl e1 S_wAttributeType_NUMBER (g := (mkF m 8 #[.val (.ref wJavaType_LONG), .val (.ref wAttributeType_STRING)] [(.ref wAttributeType_STRING)])) rfl (hb hby own_d1_8)
  obtain ⟨fs, hr, hrun, hended, hW, hsame⟩ := X2.leave (v := some (.int (0 : Int32))) (fun h => by rw [Bd.returns] at h; cases h)
  refine ⟨_, _, pre0 _ ?_, hrun, hended, _, _, rfl, ?_, ⟨_, rfl⟩, hW, hsame.mono (by decide) (by decide)⟩
  · show Steps p.tables e below (s₁.setTop (mkF m 0 #[.val (.ref wJavaType_LONG), .val (.ref wAttributeType_STRING)] [])) _
    refine XS.aloadN X0.here hx rfl (hb hby own_d1_0) rfl rfl ?_
    show Steps p.tables e below (s₁.setTop (mkF m 1 #[.val (.ref wJavaType_LONG), .val (.ref wAttributeType_STRING)] [(.ref wJavaType_LONG)])) _
    refine st1 _ ?_
    show Steps p.tables e below (T1.setTop (mkF m 4 #[.val (.ref wJavaType_LONG), .val (.ref wAttributeType_STRING)] [(.ref wJavaType_STRING), (.ref wJavaType_LONG)])) _
    refine Jvm.RoadKit.acmp (g := (mkF m 4 #[.val (.ref wJavaType_LONG), .val (.ref wAttributeType_STRING)] [(.ref wJavaType_STRING), (.ref wJavaType_LONG)])) X1 hx rfl rfl rfl (pc0 := 4) (pc' := 7) (same := false) rfl (hb hby own_d1_4) rfl (decide_eq_false fun q => (Ne.symm ne_wJavaType_STRING_wJavaType_LONG) (Value.ref.inj q)) (by decide) (by decide) ?_
    show Steps p.tables e below (T1.setTop (mkF m 7 #[.val (.ref wJavaType_LONG), .val (.ref wAttributeType_STRING)] [])) _
    refine XS.aloadN X1.here hx rfl (hb hby own_d1_7) rfl rfl ?_
    show Steps p.tables e below (T1.setTop (mkF m 8 #[.val (.ref wJavaType_LONG), .val (.ref wAttributeType_STRING)] [(.ref wAttributeType_STRING)])) _
    refine st2 _ ?_
    show Steps p.tables e below (T2.setTop (mkF m 11 #[.val (.ref wJavaType_LONG), .val (.ref wAttributeType_STRING)] [(.ref wAttributeType_NUMBER), (.ref wAttributeType_STRING)])) _
    refine Jvm.RoadKit.acmp (g := (mkF m 11 #[.val (.ref wJavaType_LONG), .val (.ref wAttributeType_STRING)] [(.ref wAttributeType_NUMBER), (.ref wAttributeType_STRING)])) X2 hx rfl rfl rfl (pc0 := 11) (pc' := 18) (same := false) rfl (hb hby own_d1_11) rfl (decide_eq_false fun q => (Ne.symm ne_wAttributeType_NUMBER_wAttributeType_STRING) (Value.ref.inj q)) (by decide) (by decide) ?_
    show Steps p.tables e below (T2.setTop (mkF m 18 #[.val (.ref wJavaType_LONG), .val (.ref wAttributeType_STRING)] [])) _
    refine XS.iconst X2.here hx rfl (hb hby own_d1_18) ?_
    show Steps p.tables e below (T2.setTop (mkF m 19 #[.val (.ref wJavaType_LONG), .val (.ref wAttributeType_STRING)] [(.int (0 : Int32))])) _
    exact retN X2 hx (t := .boolean) Bd.returns (by simp) (hb hby own_d1_19) hr
  · exact ⟨rfl, N0, e2⟩
set_option maxRecDepth 65536 in
set_option maxHeartbeats 40000000 in
theorem own_r0_t2a0 (l : Launch) (Z : State) (a0 : Array Value) (hw : ∀ d ∈ tables_1, d.before a0 Z = true) (ws : List Jvm.Cond) (wJavaType_STRING : Addr) (wAttributeType_NUMBER : Addr) (wJavaType_LONG : Addr) (wAttributeType_STRING : Addr) (wJavaType_INTEGER : Addr) (wJavaType_BIG_DECIMAL : Addr) (h0 : Heap) (n0 : Nat) (Z0 : n0 ≤ h0.size) (F : own_W Z h0 wJavaType_STRING wAttributeType_NUMBER wJavaType_LONG wAttributeType_STRING wJavaType_INTEGER wJavaType_BIG_DECIMAL) (i0 : Int32) (i1 : Int32) (ht : (i0 &&& (3 : Int32)) = (2 : Int32)) (ha : (i1 &&& (1 : Int32)) = (0 : Int32)) :
    MetFree l x (head1 (Jvm.Cond.code x code maxLocals ret :: ws) room_1) (fun a U => a = #[(.int i0), (.int i1)] ∧ Z.Warmed39 U.vm ∧ U.heap = h0) (fun _ _ _ _ _ => True) (fun _ U o U' => ∃ v L, o = .returned v ∧ own_Q (.int (1 : Int32)) h0 n0 v U'.heap L ∧ FrameEnd U o U' L room_1.cells room_1.slots) := by
  obtain ⟨S_wJavaType_STRING, E_wJavaType_STRING, S_wAttributeType_NUMBER, E_wAttributeType_NUMBER, S_wJavaType_LONG, E_wJavaType_LONG, S_wAttributeType_STRING, E_wAttributeType_STRING, S_wJavaType_INTEGER, E_wJavaType_INTEGER, S_wJavaType_BIG_DECIMAL, E_wJavaType_BIG_DECIMAL, F_wJavaType_LONG_ordinal, F_wJavaType_STRING_ordinal, F_wJavaType_INTEGER_ordinal, F_wAttributeType_STRING_ordinal, F_wAttributeType_NUMBER_ordinal, F_wJavaType_BIG_DECIMAL_ordinal, ne_wJavaType_STRING_wJavaType_LONG, ne_wJavaType_STRING_wJavaType_INTEGER, ne_wJavaType_STRING_wJavaType_BIG_DECIMAL, ne_wAttributeType_NUMBER_wAttributeType_STRING, ne_wJavaType_LONG_wJavaType_INTEGER, ne_wJavaType_LONG_wJavaType_BIG_DECIMAL, ne_wJavaType_INTEGER_wJavaType_BIG_DECIMAL⟩ := id F
  refine MetFree.of_bodySF (plainFor_of_name own_pn_JavaTypeHoldsPinLaw) hisR ?_
  intro p e s m args below meth c s₁ Bd hml0 hP hK
  obtain ⟨rfl, hZ, hh⟩ := hP
  have hx := Bd.exec
  have hby := Bd.bytes
  have hml : c.maxLocals = 9 := hml0
  have hown : s.vm.findClass "com/example/hesiod/hesiod/dynamodb/JavaTypeHoldsPinLaw" = some m.cls := findClass_of_methodNamed Bd.named
  have X0 : Stand p l e room_1 s m #[(.int i0), (.int i1)] below meth c s₁ [] 0 0 := Stand.of_body Bd
  have e0 : s₁.heap = h0 := by rw [← hh, Bd.state]; rfl
  have N0 := Fr.nil n0
  have pre0 : ∀ t, Steps p.tables e below (s₁.setTop (mkF m 0 #[.val (.int i0), .val (.int i1), .unset, .unset, .unset, .unset, .unset, .unset, .unset] [])) t → Steps p.tables e below (s₁.setTop (entryFrame m #[(.int i0), (.int i1)] maxLocals)) t := fun t k => castTop (own_ef0_II m i0 i1) k
  obtain ⟨T1, X1, e1, st1⟩ := getS2 X0 hx hZ hown (host := "") (Or.inl (hw _ (List.mem_of_getElem? (i := 12) rfl))) Via.refl e0 S_wJavaType_LONG (g := (mkF m 50 #[.val (.int i0), .val (.int i1), .val (.int (2 : Int32)), .val (.int (0 : Int32)), .unset, .unset, .unset, .unset, .unset] [])) rfl (hb hby at_50)
  obtain ⟨T2, X2, e2, st2⟩ := getS2 X1 hx hZ hown (host := "") (Or.inl (hw _ (List.mem_of_getElem? (i := 15) rfl))) Via.refl e1 S_wAttributeType_STRING (g := (mkF m 79 #[.val (.int i0), .val (.int i1), .val (.int (2 : Int32)), .val (.int (0 : Int32)), .val (.ref wJavaType_LONG), .val (.int (0 : Int32)), .val (.int (1 : Int32)), .unset, .unset] [])) rfl (hb hby at_79)
  obtain ⟨cq3, kq3, q3a, q3b, q3c⟩ := isOf hZ e2 E_wJavaType_LONG
  obtain ⟨_, _, ⟨T3, L3, k3, n3⟩, -, X3, ⟨Lc3, hQ3, l3, y3, z3⟩, st3⟩ := X2.virtualBack hx (y := (⟨"com/example/hesiod/hesiod/dynamodb/JavaType", "holds", "(Lcom/example/hesiod/hesiod/model/AttributeType;)Z"⟩ : MethodName)) (z := (⟨"com/example/hesiod/hesiod/dynamodb/JavaType", "holds", "(Lcom/example/hesiod/hesiod/model/AttributeType;)Z"⟩ : MethodName)) hown (mvT hZ (hw _ (List.mem_of_getElem? (i := 6) rfl))) (mvT hZ (hw _ (List.mem_of_getElem? (i := 7) rfl))) (notFace_of_selects (args := #[]) (mvT hZ (hw _ (List.mem_of_getElem? (i := 9) rfl)))) (mvT hZ (hw _ (List.mem_of_getElem? (i := 9) rfl))) (mvT hZ (hw _ (List.mem_of_getElem? (i := 8) rfl))) (by decide) (backOf (W := 0) (own_r1_10 l Z a0 hw [] wJavaType_STRING wAttributeType_NUMBER wJavaType_LONG wAttributeType_STRING wJavaType_INTEGER wJavaType_BIG_DECIMAL h0 n0 Z0 F ) hZ (hw _ (List.mem_of_getElem? (i := 10) rfl)) (hw _ (List.mem_of_getElem? (i := 1) rfl)) (by decide) (by decide)) q3a q3c (g := (mkF m 104 #[.val (.int i0), .val (.int i1), .val (.int (2 : Int32)), .val (.int (0 : Int32)), .val (.ref wJavaType_LONG), .val (.int (0 : Int32)), .val (.int (1 : Int32)), .val (.ref wAttributeType_STRING), .val (.int (0 : Int32))] [(.ref wAttributeType_STRING), (.ref wJavaType_LONG)])) rfl (by rw [hml]; rfl) (Steps.refl _) (argsL := [(.ref wAttributeType_STRING)]) (rest := []) (lenOf own_pd0 rfl) rfl (by show 2 * 0 + _ ≤ _; exact Nat.le_of_eq rfl) (hb hby at_104) (fun _ _ => ⟨rfl, e2, (by decide : 0 + 0 ≤ _), (by decide : 0 + 0 ≤ _)⟩)
  dsimp only [Pt.U, Pt.locs, Pt.cells, Pt.slots] at X3 l3 y3 z3 st3 hQ3
  subst l3 y3 z3
  obtain ⟨rfl, N3q, e3⟩ := hQ3
  have N3 := Fr.app N0 N3q
  obtain ⟨fs, hr, hrun, hended, hW, hsame⟩ := X3.leave (v := some (.int (1 : Int32))) (fun h => by rw [Bd.returns] at h; cases h)
  refine ⟨_, _, pre0 _ ?_, hrun, hended, _, _, rfl, ?_, ⟨_, rfl⟩, hW, hsame.mono (by decide) (by decide)⟩
  · show Steps p.tables e below (s₁.setTop (mkF m 0 #[.val (.int i0), .val (.int i1), .unset, .unset, .unset, .unset, .unset, .unset, .unset] [])) _
    refine XS.iloadN X0.here hx rfl (hb hby at_0) rfl ?_
    show Steps p.tables e below (s₁.setTop (mkF m 1 #[.val (.int i0), .val (.int i1), .unset, .unset, .unset, .unset, .unset, .unset, .unset] [(.int i0)])) _
    refine XS.iconst X0.here hx rfl (hb hby at_1) ?_
    show Steps p.tables e below (s₁.setTop (mkF m 2 #[.val (.int i0), .val (.int i1), .unset, .unset, .unset, .unset, .unset, .unset, .unset] [(.int (3 : Int32)), (.int i0)])) _
    refine XS.iand X0.here hx rfl (hb hby at_2) rfl ?_
    show Steps p.tables e below (s₁.setTop (mkF m 3 #[.val (.int i0), .val (.int i1), .unset, .unset, .unset, .unset, .unset, .unset, .unset] [(.int (i0 &&& (3 : Int32)))])) _
    rw [ht]
    show Steps p.tables e below (s₁.setTop (mkF m 3 #[.val (.int i0), .val (.int i1), .unset, .unset, .unset, .unset, .unset, .unset, .unset] [(.int (2 : Int32))])) _
    refine XS.istoreN X0.here hx rfl (hb hby at_3) rfl (l' := #[.val (.int i0), .val (.int i1), .val (.int (2 : Int32)), .unset, .unset, .unset, .unset, .unset, .unset]) rfl ?_
    show Steps p.tables e below (s₁.setTop (mkF m 4 #[.val (.int i0), .val (.int i1), .val (.int (2 : Int32)), .unset, .unset, .unset, .unset, .unset, .unset] [])) _
    refine XS.iloadN X0.here hx rfl (hb hby at_4) rfl ?_
    show Steps p.tables e below (s₁.setTop (mkF m 5 #[.val (.int i0), .val (.int i1), .val (.int (2 : Int32)), .unset, .unset, .unset, .unset, .unset, .unset] [(.int i1)])) _
    refine XS.iconst X0.here hx rfl (hb hby at_5) ?_
    show Steps p.tables e below (s₁.setTop (mkF m 6 #[.val (.int i0), .val (.int i1), .val (.int (2 : Int32)), .unset, .unset, .unset, .unset, .unset, .unset] [(.int (1 : Int32)), (.int i1)])) _
    refine XS.iand X0.here hx rfl (hb hby at_6) rfl ?_
    show Steps p.tables e below (s₁.setTop (mkF m 7 #[.val (.int i0), .val (.int i1), .val (.int (2 : Int32)), .unset, .unset, .unset, .unset, .unset, .unset] [(.int (i1 &&& (1 : Int32)))])) _
    rw [ha]
    show Steps p.tables e below (s₁.setTop (mkF m 7 #[.val (.int i0), .val (.int i1), .val (.int (2 : Int32)), .unset, .unset, .unset, .unset, .unset, .unset] [(.int (0 : Int32))])) _
    refine XS.istoreN X0.here hx rfl (hb hby at_7) rfl (l' := #[.val (.int i0), .val (.int i1), .val (.int (2 : Int32)), .val (.int (0 : Int32)), .unset, .unset, .unset, .unset, .unset]) rfl ?_
    show Steps p.tables e below (s₁.setTop (mkF m 8 #[.val (.int i0), .val (.int i1), .val (.int (2 : Int32)), .val (.int (0 : Int32)), .unset, .unset, .unset, .unset, .unset] [])) _
    refine XS.iloadN X0.here hx rfl (hb hby at_8) rfl ?_
    show Steps p.tables e below (s₁.setTop (mkF m 9 #[.val (.int i0), .val (.int i1), .val (.int (2 : Int32)), .val (.int (0 : Int32)), .unset, .unset, .unset, .unset, .unset] [(.int (2 : Int32))])) _
    refine XS.ifYes X0.here hx rfl (pc0 := 9) (pc' := 26) rfl (hb hby at_9) rfl ((if0 _ _).trans (feq (by decide : ¬ ((2 : Int32) = (0 : Int32)))).2) (by decide) (by decide) ?_
    show Steps p.tables e below (s₁.setTop (mkF m 26 #[.val (.int i0), .val (.int i1), .val (.int (2 : Int32)), .val (.int (0 : Int32)), .unset, .unset, .unset, .unset, .unset] [])) _
    refine XS.iloadN X0.here hx rfl (hb hby at_26) rfl ?_
    show Steps p.tables e below (s₁.setTop (mkF m 27 #[.val (.int i0), .val (.int i1), .val (.int (2 : Int32)), .val (.int (0 : Int32)), .unset, .unset, .unset, .unset, .unset] [(.int (2 : Int32))])) _
    refine XS.iconst X0.here hx rfl (hb hby at_27) ?_
    show Steps p.tables e below (s₁.setTop (mkF m 28 #[.val (.int i0), .val (.int i1), .val (.int (2 : Int32)), .val (.int (0 : Int32)), .unset, .unset, .unset, .unset, .unset] [(.int (1 : Int32)), (.int (2 : Int32))])) _
    refine XS.icmpYes X0.here hx rfl (pc0 := 28) (pc' := 45) rfl (hb hby at_28) rfl (feq (by decide : ¬ ((2 : Int32) = (1 : Int32)))).2 (by decide) (by decide) ?_
    show Steps p.tables e below (s₁.setTop (mkF m 45 #[.val (.int i0), .val (.int i1), .val (.int (2 : Int32)), .val (.int (0 : Int32)), .unset, .unset, .unset, .unset, .unset] [])) _
    refine XS.iloadN X0.here hx rfl (hb hby at_45) rfl ?_
    show Steps p.tables e below (s₁.setTop (mkF m 46 #[.val (.int i0), .val (.int i1), .val (.int (2 : Int32)), .val (.int (0 : Int32)), .unset, .unset, .unset, .unset, .unset] [(.int (2 : Int32))])) _
    refine XS.iconst X0.here hx rfl (hb hby at_46) ?_
    show Steps p.tables e below (s₁.setTop (mkF m 47 #[.val (.int i0), .val (.int i1), .val (.int (2 : Int32)), .val (.int (0 : Int32)), .unset, .unset, .unset, .unset, .unset] [(.int (2 : Int32)), (.int (2 : Int32))])) _
    refine XS.icmpNo X0.here hx rfl (hb hby at_47) rfl (teq (by decide : (2 : Int32) = (2 : Int32))).2 ?_
    show Steps p.tables e below (s₁.setTop (mkF m 50 #[.val (.int i0), .val (.int i1), .val (.int (2 : Int32)), .val (.int (0 : Int32)), .unset, .unset, .unset, .unset, .unset] [])) _
    refine st1 _ ?_
    show Steps p.tables e below (T1.setTop (mkF m 53 #[.val (.int i0), .val (.int i1), .val (.int (2 : Int32)), .val (.int (0 : Int32)), .unset, .unset, .unset, .unset, .unset] [(.ref wJavaType_LONG)])) _
    refine XS.astore X1.here hx rfl (hb hby at_53) rfl rfl (l' := #[.val (.int i0), .val (.int i1), .val (.int (2 : Int32)), .val (.int (0 : Int32)), .val (.ref wJavaType_LONG), .unset, .unset, .unset, .unset]) rfl ?_
    show Steps p.tables e below (T1.setTop (mkF m 55 #[.val (.int i0), .val (.int i1), .val (.int (2 : Int32)), .val (.int (0 : Int32)), .val (.ref wJavaType_LONG), .unset, .unset, .unset, .unset] [])) _
    refine XS.iconst X1.here hx rfl (hb hby at_55) ?_
    show Steps p.tables e below (T1.setTop (mkF m 56 #[.val (.int i0), .val (.int i1), .val (.int (2 : Int32)), .val (.int (0 : Int32)), .val (.ref wJavaType_LONG), .unset, .unset, .unset, .unset] [(.int (0 : Int32))])) _
    refine XS.istore X1.here hx rfl (hb hby at_56) rfl (l' := #[.val (.int i0), .val (.int i1), .val (.int (2 : Int32)), .val (.int (0 : Int32)), .val (.ref wJavaType_LONG), .val (.int (0 : Int32)), .unset, .unset, .unset]) rfl ?_
    show Steps p.tables e below (T1.setTop (mkF m 58 #[.val (.int i0), .val (.int i1), .val (.int (2 : Int32)), .val (.int (0 : Int32)), .val (.ref wJavaType_LONG), .val (.int (0 : Int32)), .unset, .unset, .unset] [])) _
    refine XS.iconst X1.here hx rfl (hb hby at_58) ?_
    show Steps p.tables e below (T1.setTop (mkF m 59 #[.val (.int i0), .val (.int i1), .val (.int (2 : Int32)), .val (.int (0 : Int32)), .val (.ref wJavaType_LONG), .val (.int (0 : Int32)), .unset, .unset, .unset] [(.int (1 : Int32))])) _
    refine XS.istore X1.here hx rfl (hb hby at_59) rfl (l' := #[.val (.int i0), .val (.int i1), .val (.int (2 : Int32)), .val (.int (0 : Int32)), .val (.ref wJavaType_LONG), .val (.int (0 : Int32)), .val (.int (1 : Int32)), .unset, .unset]) rfl ?_
    show Steps p.tables e below (T1.setTop (mkF m 61 #[.val (.int i0), .val (.int i1), .val (.int (2 : Int32)), .val (.int (0 : Int32)), .val (.ref wJavaType_LONG), .val (.int (0 : Int32)), .val (.int (1 : Int32)), .unset, .unset] [])) _
    refine XS.goto X1.here hx rfl (pc0 := 61) (pc' := 75) rfl (hb hby at_61) (by decide) (by decide) ?_
    show Steps p.tables e below (T1.setTop (mkF m 75 #[.val (.int i0), .val (.int i1), .val (.int (2 : Int32)), .val (.int (0 : Int32)), .val (.ref wJavaType_LONG), .val (.int (0 : Int32)), .val (.int (1 : Int32)), .unset, .unset] [])) _
    refine XS.iloadN X1.here hx rfl (hb hby at_75) rfl ?_
    show Steps p.tables e below (T1.setTop (mkF m 76 #[.val (.int i0), .val (.int i1), .val (.int (2 : Int32)), .val (.int (0 : Int32)), .val (.ref wJavaType_LONG), .val (.int (0 : Int32)), .val (.int (1 : Int32)), .unset, .unset] [(.int (0 : Int32))])) _
    refine XS.ifNo X1.here hx rfl (hb hby at_76) rfl ((if0 _ _).trans (teq (by decide : (0 : Int32) = (0 : Int32))).2) ?_
    show Steps p.tables e below (T1.setTop (mkF m 79 #[.val (.int i0), .val (.int i1), .val (.int (2 : Int32)), .val (.int (0 : Int32)), .val (.ref wJavaType_LONG), .val (.int (0 : Int32)), .val (.int (1 : Int32)), .unset, .unset] [])) _
    refine st2 _ ?_
    show Steps p.tables e below (T2.setTop (mkF m 82 #[.val (.int i0), .val (.int i1), .val (.int (2 : Int32)), .val (.int (0 : Int32)), .val (.ref wJavaType_LONG), .val (.int (0 : Int32)), .val (.int (1 : Int32)), .unset, .unset] [(.ref wAttributeType_STRING)])) _
    refine XS.astore X2.here hx rfl (hb hby at_82) rfl rfl (l' := #[.val (.int i0), .val (.int i1), .val (.int (2 : Int32)), .val (.int (0 : Int32)), .val (.ref wJavaType_LONG), .val (.int (0 : Int32)), .val (.int (1 : Int32)), .val (.ref wAttributeType_STRING), .unset]) rfl ?_
    show Steps p.tables e below (T2.setTop (mkF m 84 #[.val (.int i0), .val (.int i1), .val (.int (2 : Int32)), .val (.int (0 : Int32)), .val (.ref wJavaType_LONG), .val (.int (0 : Int32)), .val (.int (1 : Int32)), .val (.ref wAttributeType_STRING), .unset] [])) _
    refine XS.iload X2.here hx rfl (hb hby at_84) rfl ?_
    show Steps p.tables e below (T2.setTop (mkF m 86 #[.val (.int i0), .val (.int i1), .val (.int (2 : Int32)), .val (.int (0 : Int32)), .val (.ref wJavaType_LONG), .val (.int (0 : Int32)), .val (.int (1 : Int32)), .val (.ref wAttributeType_STRING), .unset] [(.int (0 : Int32))])) _
    refine XS.istore X2.here hx rfl (hb hby at_86) rfl (l' := #[.val (.int i0), .val (.int i1), .val (.int (2 : Int32)), .val (.int (0 : Int32)), .val (.ref wJavaType_LONG), .val (.int (0 : Int32)), .val (.int (1 : Int32)), .val (.ref wAttributeType_STRING), .val (.int (0 : Int32))]) rfl ?_
    show Steps p.tables e below (T2.setTop (mkF m 88 #[.val (.int i0), .val (.int i1), .val (.int (2 : Int32)), .val (.int (0 : Int32)), .val (.ref wJavaType_LONG), .val (.int (0 : Int32)), .val (.int (1 : Int32)), .val (.ref wAttributeType_STRING), .val (.int (0 : Int32))] [])) _
    refine XS.goto X2.here hx rfl (pc0 := 88) (pc' := 100) rfl (hb hby at_88) (by decide) (by decide) ?_
    show Steps p.tables e below (T2.setTop (mkF m 100 #[.val (.int i0), .val (.int i1), .val (.int (2 : Int32)), .val (.int (0 : Int32)), .val (.ref wJavaType_LONG), .val (.int (0 : Int32)), .val (.int (1 : Int32)), .val (.ref wAttributeType_STRING), .val (.int (0 : Int32))] [])) _
    refine XS.aload X2.here hx rfl (hb hby at_100) rfl rfl ?_
    show Steps p.tables e below (T2.setTop (mkF m 102 #[.val (.int i0), .val (.int i1), .val (.int (2 : Int32)), .val (.int (0 : Int32)), .val (.ref wJavaType_LONG), .val (.int (0 : Int32)), .val (.int (1 : Int32)), .val (.ref wAttributeType_STRING), .val (.int (0 : Int32))] [(.ref wJavaType_LONG)])) _
    refine XS.aload X2.here hx rfl (hb hby at_102) rfl rfl ?_
    show Steps p.tables e below (T2.setTop (mkF m 104 #[.val (.int i0), .val (.int i1), .val (.int (2 : Int32)), .val (.int (0 : Int32)), .val (.ref wJavaType_LONG), .val (.int (0 : Int32)), .val (.int (1 : Int32)), .val (.ref wAttributeType_STRING), .val (.int (0 : Int32))] [(.ref wAttributeType_STRING), (.ref wJavaType_LONG)])) _
    refine st3.trans ?_
    show Steps p.tables e below (T3.setTop (mkF m 107 #[.val (.int i0), .val (.int i1), .val (.int (2 : Int32)), .val (.int (0 : Int32)), .val (.ref wJavaType_LONG), .val (.int (0 : Int32)), .val (.int (1 : Int32)), .val (.ref wAttributeType_STRING), .val (.int (0 : Int32))] [(.int (0 : Int32))])) _
    refine XS.iload X3.here hx rfl (hb hby at_107) rfl ?_
    show Steps p.tables e below (T3.setTop (mkF m 109 #[.val (.int i0), .val (.int i1), .val (.int (2 : Int32)), .val (.int (0 : Int32)), .val (.ref wJavaType_LONG), .val (.int (0 : Int32)), .val (.int (1 : Int32)), .val (.ref wAttributeType_STRING), .val (.int (0 : Int32))] [(.int (0 : Int32)), (.int (0 : Int32))])) _
    refine XS.icmpNo X3.here hx rfl (hb hby at_109) rfl (teq (by decide : (0 : Int32) = (0 : Int32))).2 ?_
    show Steps p.tables e below (T3.setTop (mkF m 112 #[.val (.int i0), .val (.int i1), .val (.int (2 : Int32)), .val (.int (0 : Int32)), .val (.ref wJavaType_LONG), .val (.int (0 : Int32)), .val (.int (1 : Int32)), .val (.ref wAttributeType_STRING), .val (.int (0 : Int32))] [])) _
    refine XS.iconst X3.here hx rfl (hb hby at_112) ?_
    show Steps p.tables e below (T3.setTop (mkF m 113 #[.val (.int i0), .val (.int i1), .val (.int (2 : Int32)), .val (.int (0 : Int32)), .val (.ref wJavaType_LONG), .val (.int (0 : Int32)), .val (.int (1 : Int32)), .val (.ref wAttributeType_STRING), .val (.int (0 : Int32))] [(.int (1 : Int32))])) _
    refine XS.goto X3.here hx rfl (pc0 := 113) (pc' := 117) rfl (hb hby at_113) (by decide) (by decide) ?_
    show Steps p.tables e below (T3.setTop (mkF m 117 #[.val (.int i0), .val (.int i1), .val (.int (2 : Int32)), .val (.int (0 : Int32)), .val (.ref wJavaType_LONG), .val (.int (0 : Int32)), .val (.int (1 : Int32)), .val (.ref wAttributeType_STRING), .val (.int (0 : Int32))] [(.int (1 : Int32))])) _
    exact retN X3 hx (t := .boolean) Bd.returns (by simp) (hb hby at_117) hr
  · exact ⟨rfl, N3, e3⟩
set_option maxRecDepth 65536 in
set_option maxHeartbeats 40000000 in
theorem own_r1_12 (l : Launch) (Z : State) (a0 : Array Value) (hw : ∀ d ∈ tables_1, d.before a0 Z = true) (ws : List Jvm.Cond) (wJavaType_STRING : Addr) (wAttributeType_NUMBER : Addr) (wJavaType_LONG : Addr) (wAttributeType_STRING : Addr) (wJavaType_INTEGER : Addr) (wJavaType_BIG_DECIMAL : Addr) (h0 : Heap) (n0 : Nat) (Z0 : n0 ≤ h0.size) (F : own_W Z h0 wJavaType_STRING wAttributeType_NUMBER wJavaType_LONG wAttributeType_STRING wJavaType_INTEGER wJavaType_BIG_DECIMAL)   :
    MetFree l (⟨"com/example/hesiod/hesiod/dynamodb/JavaType", "holds", "(Lcom/example/hesiod/hesiod/model/AttributeType;)Z"⟩ : MethodName) (head1 (Jvm.Cond.code (⟨"com/example/hesiod/hesiod/dynamodb/JavaType", "holds", "(Lcom/example/hesiod/hesiod/model/AttributeType;)Z"⟩ : MethodName) prog_3_method_5_code 2 (some .boolean) :: ws) ({ frames := 0, cells := 0, slots := 0, locals := 0 } : Room)) (fun a U => a = #[(.ref wJavaType_LONG), (.ref wAttributeType_NUMBER)] ∧ Z.Warmed39 U.vm ∧ U.heap = h0) (fun _ _ _ _ _ => True) (fun _ U o U' => ∃ v L, o = .returned v ∧ own_Q (.int (1 : Int32)) h0 n0 v U'.heap L ∧ FrameEnd U o U' L ({ frames := 0, cells := 0, slots := 0, locals := 0 } : Room).cells ({ frames := 0, cells := 0, slots := 0, locals := 0 } : Room).slots) := by
  obtain ⟨S_wJavaType_STRING, E_wJavaType_STRING, S_wAttributeType_NUMBER, E_wAttributeType_NUMBER, S_wJavaType_LONG, E_wJavaType_LONG, S_wAttributeType_STRING, E_wAttributeType_STRING, S_wJavaType_INTEGER, E_wJavaType_INTEGER, S_wJavaType_BIG_DECIMAL, E_wJavaType_BIG_DECIMAL, F_wJavaType_LONG_ordinal, F_wJavaType_STRING_ordinal, F_wJavaType_INTEGER_ordinal, F_wAttributeType_STRING_ordinal, F_wAttributeType_NUMBER_ordinal, F_wJavaType_BIG_DECIMAL_ordinal, ne_wJavaType_STRING_wJavaType_LONG, ne_wJavaType_STRING_wJavaType_INTEGER, ne_wJavaType_STRING_wJavaType_BIG_DECIMAL, ne_wAttributeType_NUMBER_wAttributeType_STRING, ne_wJavaType_LONG_wJavaType_INTEGER, ne_wJavaType_LONG_wJavaType_BIG_DECIMAL, ne_wJavaType_INTEGER_wJavaType_BIG_DECIMAL⟩ := id F
  refine MetFree.of_bodySF (plainFor_of_name own_pn_JavaType) hisR ?_
  intro p e s m args below meth c s₁ Bd hml0 hP hK
  obtain ⟨rfl, hZ, hh⟩ := hP
  have hx := Bd.exec
  have hby := Bd.bytes
  have hml : c.maxLocals = 2 := hml0
  have hown : s.vm.findClass "com/example/hesiod/hesiod/dynamodb/JavaType" = some m.cls := findClass_of_methodNamed Bd.named
  have X0 : Stand p l e ({ frames := 0, cells := 0, slots := 0, locals := 0 } : Room) s m #[(.ref wJavaType_LONG), (.ref wAttributeType_NUMBER)] below meth c s₁ [] 0 0 := Stand.of_body Bd
  have e0 : s₁.heap = h0 := by rw [← hh, Bd.state]; rfl
  have N0 := Fr.nil n0
  have pre0 : ∀ t, Steps p.tables e below (s₁.setTop (mkF m 0 #[.val (.ref wJavaType_LONG), .val (.ref wAttributeType_NUMBER)] [])) t → Steps p.tables e below (s₁.setTop (entryFrame m #[(.ref wJavaType_LONG), (.ref wAttributeType_NUMBER)] 2)) t := fun t k => castTop (own_ef1_RR m wJavaType_LONG wAttributeType_NUMBER) k
  obtain ⟨T1, X1, e1, st1⟩ := getS2 X0 hx hZ hown (host := "") (Or.inl (hw _ (List.mem_of_getElem? (i := 11) rfl))) Via.refl e0 S_wJavaType_STRING (g := (mkF m 1 #[.val (.ref wJavaType_LONG), .val (.ref wAttributeType_NUMBER)] [(.ref wJavaType_LONG)])) rfl (hb hby own_d1_1)
  obtain ⟨T2, X2, e2, st2⟩ := getS2 X1 hx hZ hown (host := "") (Or.inl (hw _ (List.mem_of_getElem? (i := 14) rfl))) Via.refl e1 S_wAttributeType_NUMBER (g := (mkF m 8 #[.val (.ref wJavaType_LONG), .val (.ref wAttributeType_NUMBER)] [(.ref wAttributeType_NUMBER)])) rfl (hb hby own_d1_8)
  obtain ⟨fs, hr, hrun, hended, hW, hsame⟩ := X2.leave (v := some (.int (1 : Int32))) (fun h => by rw [Bd.returns] at h; cases h)
  refine ⟨_, _, pre0 _ ?_, hrun, hended, _, _, rfl, ?_, ⟨_, rfl⟩, hW, hsame.mono (by decide) (by decide)⟩
  · show Steps p.tables e below (s₁.setTop (mkF m 0 #[.val (.ref wJavaType_LONG), .val (.ref wAttributeType_NUMBER)] [])) _
    refine XS.aloadN X0.here hx rfl (hb hby own_d1_0) rfl rfl ?_
    show Steps p.tables e below (s₁.setTop (mkF m 1 #[.val (.ref wJavaType_LONG), .val (.ref wAttributeType_NUMBER)] [(.ref wJavaType_LONG)])) _
    refine st1 _ ?_
    show Steps p.tables e below (T1.setTop (mkF m 4 #[.val (.ref wJavaType_LONG), .val (.ref wAttributeType_NUMBER)] [(.ref wJavaType_STRING), (.ref wJavaType_LONG)])) _
    refine Jvm.RoadKit.acmp (g := (mkF m 4 #[.val (.ref wJavaType_LONG), .val (.ref wAttributeType_NUMBER)] [(.ref wJavaType_STRING), (.ref wJavaType_LONG)])) X1 hx rfl rfl rfl (pc0 := 4) (pc' := 7) (same := false) rfl (hb hby own_d1_4) rfl (decide_eq_false fun q => (Ne.symm ne_wJavaType_STRING_wJavaType_LONG) (Value.ref.inj q)) (by decide) (by decide) ?_
    show Steps p.tables e below (T1.setTop (mkF m 7 #[.val (.ref wJavaType_LONG), .val (.ref wAttributeType_NUMBER)] [])) _
    refine XS.aloadN X1.here hx rfl (hb hby own_d1_7) rfl rfl ?_
    show Steps p.tables e below (T1.setTop (mkF m 8 #[.val (.ref wJavaType_LONG), .val (.ref wAttributeType_NUMBER)] [(.ref wAttributeType_NUMBER)])) _
    refine st2 _ ?_
    show Steps p.tables e below (T2.setTop (mkF m 11 #[.val (.ref wJavaType_LONG), .val (.ref wAttributeType_NUMBER)] [(.ref wAttributeType_NUMBER), (.ref wAttributeType_NUMBER)])) _
    refine Jvm.RoadKit.acmp (g := (mkF m 11 #[.val (.ref wJavaType_LONG), .val (.ref wAttributeType_NUMBER)] [(.ref wAttributeType_NUMBER), (.ref wAttributeType_NUMBER)])) X2 hx rfl rfl rfl (pc0 := 11) (pc' := 14) (same := true) rfl (hb hby own_d1_11) rfl (decide_eq_true rfl) (by decide) (by decide) ?_
    show Steps p.tables e below (T2.setTop (mkF m 14 #[.val (.ref wJavaType_LONG), .val (.ref wAttributeType_NUMBER)] [])) _
    refine XS.iconst X2.here hx rfl (hb hby own_d1_14) ?_
    show Steps p.tables e below (T2.setTop (mkF m 15 #[.val (.ref wJavaType_LONG), .val (.ref wAttributeType_NUMBER)] [(.int (1 : Int32))])) _
    refine XS.goto X2.here hx rfl (pc0 := 15) (pc' := 19) rfl (hb hby own_d1_15) (by decide) (by decide) ?_
    show Steps p.tables e below (T2.setTop (mkF m 19 #[.val (.ref wJavaType_LONG), .val (.ref wAttributeType_NUMBER)] [(.int (1 : Int32))])) _
    exact retN X2 hx (t := .boolean) Bd.returns (by simp) (hb hby own_d1_19) hr
  · exact ⟨rfl, N0, e2⟩
set_option maxRecDepth 65536 in
set_option maxHeartbeats 40000000 in
theorem own_r0_t2a1 (l : Launch) (Z : State) (a0 : Array Value) (hw : ∀ d ∈ tables_1, d.before a0 Z = true) (ws : List Jvm.Cond) (wJavaType_STRING : Addr) (wAttributeType_NUMBER : Addr) (wJavaType_LONG : Addr) (wAttributeType_STRING : Addr) (wJavaType_INTEGER : Addr) (wJavaType_BIG_DECIMAL : Addr) (h0 : Heap) (n0 : Nat) (Z0 : n0 ≤ h0.size) (F : own_W Z h0 wJavaType_STRING wAttributeType_NUMBER wJavaType_LONG wAttributeType_STRING wJavaType_INTEGER wJavaType_BIG_DECIMAL) (i0 : Int32) (i1 : Int32) (ht : (i0 &&& (3 : Int32)) = (2 : Int32)) (ha : (i1 &&& (1 : Int32)) = (1 : Int32)) :
    MetFree l x (head1 (Jvm.Cond.code x code maxLocals ret :: ws) room_1) (fun a U => a = #[(.int i0), (.int i1)] ∧ Z.Warmed39 U.vm ∧ U.heap = h0) (fun _ _ _ _ _ => True) (fun _ U o U' => ∃ v L, o = .returned v ∧ own_Q (.int (1 : Int32)) h0 n0 v U'.heap L ∧ FrameEnd U o U' L room_1.cells room_1.slots) := by
  obtain ⟨S_wJavaType_STRING, E_wJavaType_STRING, S_wAttributeType_NUMBER, E_wAttributeType_NUMBER, S_wJavaType_LONG, E_wJavaType_LONG, S_wAttributeType_STRING, E_wAttributeType_STRING, S_wJavaType_INTEGER, E_wJavaType_INTEGER, S_wJavaType_BIG_DECIMAL, E_wJavaType_BIG_DECIMAL, F_wJavaType_LONG_ordinal, F_wJavaType_STRING_ordinal, F_wJavaType_INTEGER_ordinal, F_wAttributeType_STRING_ordinal, F_wAttributeType_NUMBER_ordinal, F_wJavaType_BIG_DECIMAL_ordinal, ne_wJavaType_STRING_wJavaType_LONG, ne_wJavaType_STRING_wJavaType_INTEGER, ne_wJavaType_STRING_wJavaType_BIG_DECIMAL, ne_wAttributeType_NUMBER_wAttributeType_STRING, ne_wJavaType_LONG_wJavaType_INTEGER, ne_wJavaType_LONG_wJavaType_BIG_DECIMAL, ne_wJavaType_INTEGER_wJavaType_BIG_DECIMAL⟩ := id F
  refine MetFree.of_bodySF (plainFor_of_name own_pn_JavaTypeHoldsPinLaw) hisR ?_
  intro p e s m args below meth c s₁ Bd hml0 hP hK
  obtain ⟨rfl, hZ, hh⟩ := hP
  have hx := Bd.exec
  have hby := Bd.bytes
  have hml : c.maxLocals = 9 := hml0
  have hown : s.vm.findClass "com/example/hesiod/hesiod/dynamodb/JavaTypeHoldsPinLaw" = some m.cls := findClass_of_methodNamed Bd.named
  have X0 : Stand p l e room_1 s m #[(.int i0), (.int i1)] below meth c s₁ [] 0 0 := Stand.of_body Bd
  have e0 : s₁.heap = h0 := by rw [← hh, Bd.state]; rfl
  have N0 := Fr.nil n0
  have pre0 : ∀ t, Steps p.tables e below (s₁.setTop (mkF m 0 #[.val (.int i0), .val (.int i1), .unset, .unset, .unset, .unset, .unset, .unset, .unset] [])) t → Steps p.tables e below (s₁.setTop (entryFrame m #[(.int i0), (.int i1)] maxLocals)) t := fun t k => castTop (own_ef0_II m i0 i1) k
  obtain ⟨T1, X1, e1, st1⟩ := getS2 X0 hx hZ hown (host := "") (Or.inl (hw _ (List.mem_of_getElem? (i := 12) rfl))) Via.refl e0 S_wJavaType_LONG (g := (mkF m 50 #[.val (.int i0), .val (.int i1), .val (.int (2 : Int32)), .val (.int (1 : Int32)), .unset, .unset, .unset, .unset, .unset] [])) rfl (hb hby at_50)
  obtain ⟨T2, X2, e2, st2⟩ := getS2 X1 hx hZ hown (host := "") (Or.inl (hw _ (List.mem_of_getElem? (i := 3) rfl))) Via.refl e1 S_wAttributeType_NUMBER (g := (mkF m 91 #[.val (.int i0), .val (.int i1), .val (.int (2 : Int32)), .val (.int (1 : Int32)), .val (.ref wJavaType_LONG), .val (.int (0 : Int32)), .val (.int (1 : Int32)), .unset, .unset] [])) rfl (hb hby at_91)
  obtain ⟨cq3, kq3, q3a, q3b, q3c⟩ := isOf hZ e2 E_wJavaType_LONG
  obtain ⟨_, _, ⟨T3, L3, k3, n3⟩, -, X3, ⟨Lc3, hQ3, l3, y3, z3⟩, st3⟩ := X2.virtualBack hx (y := (⟨"com/example/hesiod/hesiod/dynamodb/JavaType", "holds", "(Lcom/example/hesiod/hesiod/model/AttributeType;)Z"⟩ : MethodName)) (z := (⟨"com/example/hesiod/hesiod/dynamodb/JavaType", "holds", "(Lcom/example/hesiod/hesiod/model/AttributeType;)Z"⟩ : MethodName)) hown (mvT hZ (hw _ (List.mem_of_getElem? (i := 6) rfl))) (mvT hZ (hw _ (List.mem_of_getElem? (i := 7) rfl))) (notFace_of_selects (args := #[]) (mvT hZ (hw _ (List.mem_of_getElem? (i := 9) rfl)))) (mvT hZ (hw _ (List.mem_of_getElem? (i := 9) rfl))) (mvT hZ (hw _ (List.mem_of_getElem? (i := 8) rfl))) (by decide) (backOf (W := 0) (own_r1_12 l Z a0 hw [] wJavaType_STRING wAttributeType_NUMBER wJavaType_LONG wAttributeType_STRING wJavaType_INTEGER wJavaType_BIG_DECIMAL h0 n0 Z0 F ) hZ (hw _ (List.mem_of_getElem? (i := 10) rfl)) (hw _ (List.mem_of_getElem? (i := 1) rfl)) (by decide) (by decide)) q3a q3c (g := (mkF m 104 #[.val (.int i0), .val (.int i1), .val (.int (2 : Int32)), .val (.int (1 : Int32)), .val (.ref wJavaType_LONG), .val (.int (0 : Int32)), .val (.int (1 : Int32)), .val (.ref wAttributeType_NUMBER), .val (.int (1 : Int32))] [(.ref wAttributeType_NUMBER), (.ref wJavaType_LONG)])) rfl (by rw [hml]; rfl) (Steps.refl _) (argsL := [(.ref wAttributeType_NUMBER)]) (rest := []) (lenOf own_pd0 rfl) rfl (by show 2 * 0 + _ ≤ _; exact Nat.le_of_eq rfl) (hb hby at_104) (fun _ _ => ⟨rfl, e2, (by decide : 0 + 0 ≤ _), (by decide : 0 + 0 ≤ _)⟩)
  dsimp only [Pt.U, Pt.locs, Pt.cells, Pt.slots] at X3 l3 y3 z3 st3 hQ3
  subst l3 y3 z3
  obtain ⟨rfl, N3q, e3⟩ := hQ3
  have N3 := Fr.app N0 N3q
  obtain ⟨fs, hr, hrun, hended, hW, hsame⟩ := X3.leave (v := some (.int (1 : Int32))) (fun h => by rw [Bd.returns] at h; cases h)
  refine ⟨_, _, pre0 _ ?_, hrun, hended, _, _, rfl, ?_, ⟨_, rfl⟩, hW, hsame.mono (by decide) (by decide)⟩
  · show Steps p.tables e below (s₁.setTop (mkF m 0 #[.val (.int i0), .val (.int i1), .unset, .unset, .unset, .unset, .unset, .unset, .unset] [])) _
    refine XS.iloadN X0.here hx rfl (hb hby at_0) rfl ?_
    show Steps p.tables e below (s₁.setTop (mkF m 1 #[.val (.int i0), .val (.int i1), .unset, .unset, .unset, .unset, .unset, .unset, .unset] [(.int i0)])) _
    refine XS.iconst X0.here hx rfl (hb hby at_1) ?_
    show Steps p.tables e below (s₁.setTop (mkF m 2 #[.val (.int i0), .val (.int i1), .unset, .unset, .unset, .unset, .unset, .unset, .unset] [(.int (3 : Int32)), (.int i0)])) _
    refine XS.iand X0.here hx rfl (hb hby at_2) rfl ?_
    show Steps p.tables e below (s₁.setTop (mkF m 3 #[.val (.int i0), .val (.int i1), .unset, .unset, .unset, .unset, .unset, .unset, .unset] [(.int (i0 &&& (3 : Int32)))])) _
    rw [ht]
    show Steps p.tables e below (s₁.setTop (mkF m 3 #[.val (.int i0), .val (.int i1), .unset, .unset, .unset, .unset, .unset, .unset, .unset] [(.int (2 : Int32))])) _
    refine XS.istoreN X0.here hx rfl (hb hby at_3) rfl (l' := #[.val (.int i0), .val (.int i1), .val (.int (2 : Int32)), .unset, .unset, .unset, .unset, .unset, .unset]) rfl ?_
    show Steps p.tables e below (s₁.setTop (mkF m 4 #[.val (.int i0), .val (.int i1), .val (.int (2 : Int32)), .unset, .unset, .unset, .unset, .unset, .unset] [])) _
    refine XS.iloadN X0.here hx rfl (hb hby at_4) rfl ?_
    show Steps p.tables e below (s₁.setTop (mkF m 5 #[.val (.int i0), .val (.int i1), .val (.int (2 : Int32)), .unset, .unset, .unset, .unset, .unset, .unset] [(.int i1)])) _
    refine XS.iconst X0.here hx rfl (hb hby at_5) ?_
    show Steps p.tables e below (s₁.setTop (mkF m 6 #[.val (.int i0), .val (.int i1), .val (.int (2 : Int32)), .unset, .unset, .unset, .unset, .unset, .unset] [(.int (1 : Int32)), (.int i1)])) _
    refine XS.iand X0.here hx rfl (hb hby at_6) rfl ?_
    show Steps p.tables e below (s₁.setTop (mkF m 7 #[.val (.int i0), .val (.int i1), .val (.int (2 : Int32)), .unset, .unset, .unset, .unset, .unset, .unset] [(.int (i1 &&& (1 : Int32)))])) _
    rw [ha]
    show Steps p.tables e below (s₁.setTop (mkF m 7 #[.val (.int i0), .val (.int i1), .val (.int (2 : Int32)), .unset, .unset, .unset, .unset, .unset, .unset] [(.int (1 : Int32))])) _
    refine XS.istoreN X0.here hx rfl (hb hby at_7) rfl (l' := #[.val (.int i0), .val (.int i1), .val (.int (2 : Int32)), .val (.int (1 : Int32)), .unset, .unset, .unset, .unset, .unset]) rfl ?_
    show Steps p.tables e below (s₁.setTop (mkF m 8 #[.val (.int i0), .val (.int i1), .val (.int (2 : Int32)), .val (.int (1 : Int32)), .unset, .unset, .unset, .unset, .unset] [])) _
    refine XS.iloadN X0.here hx rfl (hb hby at_8) rfl ?_
    show Steps p.tables e below (s₁.setTop (mkF m 9 #[.val (.int i0), .val (.int i1), .val (.int (2 : Int32)), .val (.int (1 : Int32)), .unset, .unset, .unset, .unset, .unset] [(.int (2 : Int32))])) _
    refine XS.ifYes X0.here hx rfl (pc0 := 9) (pc' := 26) rfl (hb hby at_9) rfl ((if0 _ _).trans (feq (by decide : ¬ ((2 : Int32) = (0 : Int32)))).2) (by decide) (by decide) ?_
    show Steps p.tables e below (s₁.setTop (mkF m 26 #[.val (.int i0), .val (.int i1), .val (.int (2 : Int32)), .val (.int (1 : Int32)), .unset, .unset, .unset, .unset, .unset] [])) _
    refine XS.iloadN X0.here hx rfl (hb hby at_26) rfl ?_
    show Steps p.tables e below (s₁.setTop (mkF m 27 #[.val (.int i0), .val (.int i1), .val (.int (2 : Int32)), .val (.int (1 : Int32)), .unset, .unset, .unset, .unset, .unset] [(.int (2 : Int32))])) _
    refine XS.iconst X0.here hx rfl (hb hby at_27) ?_
    show Steps p.tables e below (s₁.setTop (mkF m 28 #[.val (.int i0), .val (.int i1), .val (.int (2 : Int32)), .val (.int (1 : Int32)), .unset, .unset, .unset, .unset, .unset] [(.int (1 : Int32)), (.int (2 : Int32))])) _
    refine XS.icmpYes X0.here hx rfl (pc0 := 28) (pc' := 45) rfl (hb hby at_28) rfl (feq (by decide : ¬ ((2 : Int32) = (1 : Int32)))).2 (by decide) (by decide) ?_
    show Steps p.tables e below (s₁.setTop (mkF m 45 #[.val (.int i0), .val (.int i1), .val (.int (2 : Int32)), .val (.int (1 : Int32)), .unset, .unset, .unset, .unset, .unset] [])) _
    refine XS.iloadN X0.here hx rfl (hb hby at_45) rfl ?_
    show Steps p.tables e below (s₁.setTop (mkF m 46 #[.val (.int i0), .val (.int i1), .val (.int (2 : Int32)), .val (.int (1 : Int32)), .unset, .unset, .unset, .unset, .unset] [(.int (2 : Int32))])) _
    refine XS.iconst X0.here hx rfl (hb hby at_46) ?_
    show Steps p.tables e below (s₁.setTop (mkF m 47 #[.val (.int i0), .val (.int i1), .val (.int (2 : Int32)), .val (.int (1 : Int32)), .unset, .unset, .unset, .unset, .unset] [(.int (2 : Int32)), (.int (2 : Int32))])) _
    refine XS.icmpNo X0.here hx rfl (hb hby at_47) rfl (teq (by decide : (2 : Int32) = (2 : Int32))).2 ?_
    show Steps p.tables e below (s₁.setTop (mkF m 50 #[.val (.int i0), .val (.int i1), .val (.int (2 : Int32)), .val (.int (1 : Int32)), .unset, .unset, .unset, .unset, .unset] [])) _
    refine st1 _ ?_
    show Steps p.tables e below (T1.setTop (mkF m 53 #[.val (.int i0), .val (.int i1), .val (.int (2 : Int32)), .val (.int (1 : Int32)), .unset, .unset, .unset, .unset, .unset] [(.ref wJavaType_LONG)])) _
    refine XS.astore X1.here hx rfl (hb hby at_53) rfl rfl (l' := #[.val (.int i0), .val (.int i1), .val (.int (2 : Int32)), .val (.int (1 : Int32)), .val (.ref wJavaType_LONG), .unset, .unset, .unset, .unset]) rfl ?_
    show Steps p.tables e below (T1.setTop (mkF m 55 #[.val (.int i0), .val (.int i1), .val (.int (2 : Int32)), .val (.int (1 : Int32)), .val (.ref wJavaType_LONG), .unset, .unset, .unset, .unset] [])) _
    refine XS.iconst X1.here hx rfl (hb hby at_55) ?_
    show Steps p.tables e below (T1.setTop (mkF m 56 #[.val (.int i0), .val (.int i1), .val (.int (2 : Int32)), .val (.int (1 : Int32)), .val (.ref wJavaType_LONG), .unset, .unset, .unset, .unset] [(.int (0 : Int32))])) _
    refine XS.istore X1.here hx rfl (hb hby at_56) rfl (l' := #[.val (.int i0), .val (.int i1), .val (.int (2 : Int32)), .val (.int (1 : Int32)), .val (.ref wJavaType_LONG), .val (.int (0 : Int32)), .unset, .unset, .unset]) rfl ?_
    show Steps p.tables e below (T1.setTop (mkF m 58 #[.val (.int i0), .val (.int i1), .val (.int (2 : Int32)), .val (.int (1 : Int32)), .val (.ref wJavaType_LONG), .val (.int (0 : Int32)), .unset, .unset, .unset] [])) _
    refine XS.iconst X1.here hx rfl (hb hby at_58) ?_
    show Steps p.tables e below (T1.setTop (mkF m 59 #[.val (.int i0), .val (.int i1), .val (.int (2 : Int32)), .val (.int (1 : Int32)), .val (.ref wJavaType_LONG), .val (.int (0 : Int32)), .unset, .unset, .unset] [(.int (1 : Int32))])) _
    refine XS.istore X1.here hx rfl (hb hby at_59) rfl (l' := #[.val (.int i0), .val (.int i1), .val (.int (2 : Int32)), .val (.int (1 : Int32)), .val (.ref wJavaType_LONG), .val (.int (0 : Int32)), .val (.int (1 : Int32)), .unset, .unset]) rfl ?_
    show Steps p.tables e below (T1.setTop (mkF m 61 #[.val (.int i0), .val (.int i1), .val (.int (2 : Int32)), .val (.int (1 : Int32)), .val (.ref wJavaType_LONG), .val (.int (0 : Int32)), .val (.int (1 : Int32)), .unset, .unset] [])) _
    refine XS.goto X1.here hx rfl (pc0 := 61) (pc' := 75) rfl (hb hby at_61) (by decide) (by decide) ?_
    show Steps p.tables e below (T1.setTop (mkF m 75 #[.val (.int i0), .val (.int i1), .val (.int (2 : Int32)), .val (.int (1 : Int32)), .val (.ref wJavaType_LONG), .val (.int (0 : Int32)), .val (.int (1 : Int32)), .unset, .unset] [])) _
    refine XS.iloadN X1.here hx rfl (hb hby at_75) rfl ?_
    show Steps p.tables e below (T1.setTop (mkF m 76 #[.val (.int i0), .val (.int i1), .val (.int (2 : Int32)), .val (.int (1 : Int32)), .val (.ref wJavaType_LONG), .val (.int (0 : Int32)), .val (.int (1 : Int32)), .unset, .unset] [(.int (1 : Int32))])) _
    refine XS.ifYes X1.here hx rfl (pc0 := 76) (pc' := 91) rfl (hb hby at_76) rfl ((if0 _ _).trans (feq (by decide : ¬ ((1 : Int32) = (0 : Int32)))).2) (by decide) (by decide) ?_
    show Steps p.tables e below (T1.setTop (mkF m 91 #[.val (.int i0), .val (.int i1), .val (.int (2 : Int32)), .val (.int (1 : Int32)), .val (.ref wJavaType_LONG), .val (.int (0 : Int32)), .val (.int (1 : Int32)), .unset, .unset] [])) _
    refine st2 _ ?_
    show Steps p.tables e below (T2.setTop (mkF m 94 #[.val (.int i0), .val (.int i1), .val (.int (2 : Int32)), .val (.int (1 : Int32)), .val (.ref wJavaType_LONG), .val (.int (0 : Int32)), .val (.int (1 : Int32)), .unset, .unset] [(.ref wAttributeType_NUMBER)])) _
    refine XS.astore X2.here hx rfl (hb hby at_94) rfl rfl (l' := #[.val (.int i0), .val (.int i1), .val (.int (2 : Int32)), .val (.int (1 : Int32)), .val (.ref wJavaType_LONG), .val (.int (0 : Int32)), .val (.int (1 : Int32)), .val (.ref wAttributeType_NUMBER), .unset]) rfl ?_
    show Steps p.tables e below (T2.setTop (mkF m 96 #[.val (.int i0), .val (.int i1), .val (.int (2 : Int32)), .val (.int (1 : Int32)), .val (.ref wJavaType_LONG), .val (.int (0 : Int32)), .val (.int (1 : Int32)), .val (.ref wAttributeType_NUMBER), .unset] [])) _
    refine XS.iload X2.here hx rfl (hb hby at_96) rfl ?_
    show Steps p.tables e below (T2.setTop (mkF m 98 #[.val (.int i0), .val (.int i1), .val (.int (2 : Int32)), .val (.int (1 : Int32)), .val (.ref wJavaType_LONG), .val (.int (0 : Int32)), .val (.int (1 : Int32)), .val (.ref wAttributeType_NUMBER), .unset] [(.int (1 : Int32))])) _
    refine XS.istore X2.here hx rfl (hb hby at_98) rfl (l' := #[.val (.int i0), .val (.int i1), .val (.int (2 : Int32)), .val (.int (1 : Int32)), .val (.ref wJavaType_LONG), .val (.int (0 : Int32)), .val (.int (1 : Int32)), .val (.ref wAttributeType_NUMBER), .val (.int (1 : Int32))]) rfl ?_
    show Steps p.tables e below (T2.setTop (mkF m 100 #[.val (.int i0), .val (.int i1), .val (.int (2 : Int32)), .val (.int (1 : Int32)), .val (.ref wJavaType_LONG), .val (.int (0 : Int32)), .val (.int (1 : Int32)), .val (.ref wAttributeType_NUMBER), .val (.int (1 : Int32))] [])) _
    refine XS.aload X2.here hx rfl (hb hby at_100) rfl rfl ?_
    show Steps p.tables e below (T2.setTop (mkF m 102 #[.val (.int i0), .val (.int i1), .val (.int (2 : Int32)), .val (.int (1 : Int32)), .val (.ref wJavaType_LONG), .val (.int (0 : Int32)), .val (.int (1 : Int32)), .val (.ref wAttributeType_NUMBER), .val (.int (1 : Int32))] [(.ref wJavaType_LONG)])) _
    refine XS.aload X2.here hx rfl (hb hby at_102) rfl rfl ?_
    show Steps p.tables e below (T2.setTop (mkF m 104 #[.val (.int i0), .val (.int i1), .val (.int (2 : Int32)), .val (.int (1 : Int32)), .val (.ref wJavaType_LONG), .val (.int (0 : Int32)), .val (.int (1 : Int32)), .val (.ref wAttributeType_NUMBER), .val (.int (1 : Int32))] [(.ref wAttributeType_NUMBER), (.ref wJavaType_LONG)])) _
    refine st3.trans ?_
    show Steps p.tables e below (T3.setTop (mkF m 107 #[.val (.int i0), .val (.int i1), .val (.int (2 : Int32)), .val (.int (1 : Int32)), .val (.ref wJavaType_LONG), .val (.int (0 : Int32)), .val (.int (1 : Int32)), .val (.ref wAttributeType_NUMBER), .val (.int (1 : Int32))] [(.int (1 : Int32))])) _
    refine XS.iload X3.here hx rfl (hb hby at_107) rfl ?_
    show Steps p.tables e below (T3.setTop (mkF m 109 #[.val (.int i0), .val (.int i1), .val (.int (2 : Int32)), .val (.int (1 : Int32)), .val (.ref wJavaType_LONG), .val (.int (0 : Int32)), .val (.int (1 : Int32)), .val (.ref wAttributeType_NUMBER), .val (.int (1 : Int32))] [(.int (1 : Int32)), (.int (1 : Int32))])) _
    refine XS.icmpNo X3.here hx rfl (hb hby at_109) rfl (teq (by decide : (1 : Int32) = (1 : Int32))).2 ?_
    show Steps p.tables e below (T3.setTop (mkF m 112 #[.val (.int i0), .val (.int i1), .val (.int (2 : Int32)), .val (.int (1 : Int32)), .val (.ref wJavaType_LONG), .val (.int (0 : Int32)), .val (.int (1 : Int32)), .val (.ref wAttributeType_NUMBER), .val (.int (1 : Int32))] [])) _
    refine XS.iconst X3.here hx rfl (hb hby at_112) ?_
    show Steps p.tables e below (T3.setTop (mkF m 113 #[.val (.int i0), .val (.int i1), .val (.int (2 : Int32)), .val (.int (1 : Int32)), .val (.ref wJavaType_LONG), .val (.int (0 : Int32)), .val (.int (1 : Int32)), .val (.ref wAttributeType_NUMBER), .val (.int (1 : Int32))] [(.int (1 : Int32))])) _
    refine XS.goto X3.here hx rfl (pc0 := 113) (pc' := 117) rfl (hb hby at_113) (by decide) (by decide) ?_
    show Steps p.tables e below (T3.setTop (mkF m 117 #[.val (.int i0), .val (.int i1), .val (.int (2 : Int32)), .val (.int (1 : Int32)), .val (.ref wJavaType_LONG), .val (.int (0 : Int32)), .val (.int (1 : Int32)), .val (.ref wAttributeType_NUMBER), .val (.int (1 : Int32))] [(.int (1 : Int32))])) _
    exact retN X3 hx (t := .boolean) Bd.returns (by simp) (hb hby at_117) hr
  · exact ⟨rfl, N3, e3⟩
set_option maxRecDepth 65536 in
set_option maxHeartbeats 40000000 in
theorem own_r1_14 (l : Launch) (Z : State) (a0 : Array Value) (hw : ∀ d ∈ tables_1, d.before a0 Z = true) (ws : List Jvm.Cond) (wJavaType_STRING : Addr) (wAttributeType_NUMBER : Addr) (wJavaType_LONG : Addr) (wAttributeType_STRING : Addr) (wJavaType_INTEGER : Addr) (wJavaType_BIG_DECIMAL : Addr) (h0 : Heap) (n0 : Nat) (Z0 : n0 ≤ h0.size) (F : own_W Z h0 wJavaType_STRING wAttributeType_NUMBER wJavaType_LONG wAttributeType_STRING wJavaType_INTEGER wJavaType_BIG_DECIMAL)   :
    MetFree l (⟨"com/example/hesiod/hesiod/dynamodb/JavaType", "holds", "(Lcom/example/hesiod/hesiod/model/AttributeType;)Z"⟩ : MethodName) (head1 (Jvm.Cond.code (⟨"com/example/hesiod/hesiod/dynamodb/JavaType", "holds", "(Lcom/example/hesiod/hesiod/model/AttributeType;)Z"⟩ : MethodName) prog_3_method_5_code 2 (some .boolean) :: ws) ({ frames := 0, cells := 0, slots := 0, locals := 0 } : Room)) (fun a U => a = #[(.ref wJavaType_BIG_DECIMAL), (.ref wAttributeType_STRING)] ∧ Z.Warmed39 U.vm ∧ U.heap = h0) (fun _ _ _ _ _ => True) (fun _ U o U' => ∃ v L, o = .returned v ∧ own_Q (.int (0 : Int32)) h0 n0 v U'.heap L ∧ FrameEnd U o U' L ({ frames := 0, cells := 0, slots := 0, locals := 0 } : Room).cells ({ frames := 0, cells := 0, slots := 0, locals := 0 } : Room).slots) := by
  obtain ⟨S_wJavaType_STRING, E_wJavaType_STRING, S_wAttributeType_NUMBER, E_wAttributeType_NUMBER, S_wJavaType_LONG, E_wJavaType_LONG, S_wAttributeType_STRING, E_wAttributeType_STRING, S_wJavaType_INTEGER, E_wJavaType_INTEGER, S_wJavaType_BIG_DECIMAL, E_wJavaType_BIG_DECIMAL, F_wJavaType_LONG_ordinal, F_wJavaType_STRING_ordinal, F_wJavaType_INTEGER_ordinal, F_wAttributeType_STRING_ordinal, F_wAttributeType_NUMBER_ordinal, F_wJavaType_BIG_DECIMAL_ordinal, ne_wJavaType_STRING_wJavaType_LONG, ne_wJavaType_STRING_wJavaType_INTEGER, ne_wJavaType_STRING_wJavaType_BIG_DECIMAL, ne_wAttributeType_NUMBER_wAttributeType_STRING, ne_wJavaType_LONG_wJavaType_INTEGER, ne_wJavaType_LONG_wJavaType_BIG_DECIMAL, ne_wJavaType_INTEGER_wJavaType_BIG_DECIMAL⟩ := id F
  refine MetFree.of_bodySF (plainFor_of_name own_pn_JavaType) hisR ?_
  intro p e s m args below meth c s₁ Bd hml0 hP hK
  obtain ⟨rfl, hZ, hh⟩ := hP
  have hx := Bd.exec
  have hby := Bd.bytes
  have hml : c.maxLocals = 2 := hml0
  have hown : s.vm.findClass "com/example/hesiod/hesiod/dynamodb/JavaType" = some m.cls := findClass_of_methodNamed Bd.named
  have X0 : Stand p l e ({ frames := 0, cells := 0, slots := 0, locals := 0 } : Room) s m #[(.ref wJavaType_BIG_DECIMAL), (.ref wAttributeType_STRING)] below meth c s₁ [] 0 0 := Stand.of_body Bd
  have e0 : s₁.heap = h0 := by rw [← hh, Bd.state]; rfl
  have N0 := Fr.nil n0
  have pre0 : ∀ t, Steps p.tables e below (s₁.setTop (mkF m 0 #[.val (.ref wJavaType_BIG_DECIMAL), .val (.ref wAttributeType_STRING)] [])) t → Steps p.tables e below (s₁.setTop (entryFrame m #[(.ref wJavaType_BIG_DECIMAL), (.ref wAttributeType_STRING)] 2)) t := fun t k => castTop (own_ef1_RR m wJavaType_BIG_DECIMAL wAttributeType_STRING) k
  obtain ⟨T1, X1, e1, st1⟩ := getS2 X0 hx hZ hown (host := "") (Or.inl (hw _ (List.mem_of_getElem? (i := 11) rfl))) Via.refl e0 S_wJavaType_STRING (g := (mkF m 1 #[.val (.ref wJavaType_BIG_DECIMAL), .val (.ref wAttributeType_STRING)] [(.ref wJavaType_BIG_DECIMAL)])) rfl (hb hby own_d1_1)
  obtain ⟨T2, X2, e2, st2⟩ := getS2 X1 hx hZ hown (host := "") (Or.inl (hw _ (List.mem_of_getElem? (i := 14) rfl))) Via.refl e1 S_wAttributeType_NUMBER (g := (mkF m 8 #[.val (.ref wJavaType_BIG_DECIMAL), .val (.ref wAttributeType_STRING)] [(.ref wAttributeType_STRING)])) rfl (hb hby own_d1_8)
  obtain ⟨fs, hr, hrun, hended, hW, hsame⟩ := X2.leave (v := some (.int (0 : Int32))) (fun h => by rw [Bd.returns] at h; cases h)
  refine ⟨_, _, pre0 _ ?_, hrun, hended, _, _, rfl, ?_, ⟨_, rfl⟩, hW, hsame.mono (by decide) (by decide)⟩
  · show Steps p.tables e below (s₁.setTop (mkF m 0 #[.val (.ref wJavaType_BIG_DECIMAL), .val (.ref wAttributeType_STRING)] [])) _
    refine XS.aloadN X0.here hx rfl (hb hby own_d1_0) rfl rfl ?_
    show Steps p.tables e below (s₁.setTop (mkF m 1 #[.val (.ref wJavaType_BIG_DECIMAL), .val (.ref wAttributeType_STRING)] [(.ref wJavaType_BIG_DECIMAL)])) _
    refine st1 _ ?_
    show Steps p.tables e below (T1.setTop (mkF m 4 #[.val (.ref wJavaType_BIG_DECIMAL), .val (.ref wAttributeType_STRING)] [(.ref wJavaType_STRING), (.ref wJavaType_BIG_DECIMAL)])) _
    refine Jvm.RoadKit.acmp (g := (mkF m 4 #[.val (.ref wJavaType_BIG_DECIMAL), .val (.ref wAttributeType_STRING)] [(.ref wJavaType_STRING), (.ref wJavaType_BIG_DECIMAL)])) X1 hx rfl rfl rfl (pc0 := 4) (pc' := 7) (same := false) rfl (hb hby own_d1_4) rfl (decide_eq_false fun q => (Ne.symm ne_wJavaType_STRING_wJavaType_BIG_DECIMAL) (Value.ref.inj q)) (by decide) (by decide) ?_
    show Steps p.tables e below (T1.setTop (mkF m 7 #[.val (.ref wJavaType_BIG_DECIMAL), .val (.ref wAttributeType_STRING)] [])) _
    refine XS.aloadN X1.here hx rfl (hb hby own_d1_7) rfl rfl ?_
    show Steps p.tables e below (T1.setTop (mkF m 8 #[.val (.ref wJavaType_BIG_DECIMAL), .val (.ref wAttributeType_STRING)] [(.ref wAttributeType_STRING)])) _
    refine st2 _ ?_
    show Steps p.tables e below (T2.setTop (mkF m 11 #[.val (.ref wJavaType_BIG_DECIMAL), .val (.ref wAttributeType_STRING)] [(.ref wAttributeType_NUMBER), (.ref wAttributeType_STRING)])) _
    refine Jvm.RoadKit.acmp (g := (mkF m 11 #[.val (.ref wJavaType_BIG_DECIMAL), .val (.ref wAttributeType_STRING)] [(.ref wAttributeType_NUMBER), (.ref wAttributeType_STRING)])) X2 hx rfl rfl rfl (pc0 := 11) (pc' := 18) (same := false) rfl (hb hby own_d1_11) rfl (decide_eq_false fun q => (Ne.symm ne_wAttributeType_NUMBER_wAttributeType_STRING) (Value.ref.inj q)) (by decide) (by decide) ?_
    show Steps p.tables e below (T2.setTop (mkF m 18 #[.val (.ref wJavaType_BIG_DECIMAL), .val (.ref wAttributeType_STRING)] [])) _
    refine XS.iconst X2.here hx rfl (hb hby own_d1_18) ?_
    show Steps p.tables e below (T2.setTop (mkF m 19 #[.val (.ref wJavaType_BIG_DECIMAL), .val (.ref wAttributeType_STRING)] [(.int (0 : Int32))])) _
    exact retN X2 hx (t := .boolean) Bd.returns (by simp) (hb hby own_d1_19) hr
  · exact ⟨rfl, N0, e2⟩
set_option maxRecDepth 65536 in
set_option maxHeartbeats 40000000 in
theorem own_r0_t3a0 (l : Launch) (Z : State) (a0 : Array Value) (hw : ∀ d ∈ tables_1, d.before a0 Z = true) (ws : List Jvm.Cond) (wJavaType_STRING : Addr) (wAttributeType_NUMBER : Addr) (wJavaType_LONG : Addr) (wAttributeType_STRING : Addr) (wJavaType_INTEGER : Addr) (wJavaType_BIG_DECIMAL : Addr) (h0 : Heap) (n0 : Nat) (Z0 : n0 ≤ h0.size) (F : own_W Z h0 wJavaType_STRING wAttributeType_NUMBER wJavaType_LONG wAttributeType_STRING wJavaType_INTEGER wJavaType_BIG_DECIMAL) (i0 : Int32) (i1 : Int32) (ht : (i0 &&& (3 : Int32)) = (3 : Int32)) (ha : (i1 &&& (1 : Int32)) = (0 : Int32)) :
    MetFree l x (head1 (Jvm.Cond.code x code maxLocals ret :: ws) room_1) (fun a U => a = #[(.int i0), (.int i1)] ∧ Z.Warmed39 U.vm ∧ U.heap = h0) (fun _ _ _ _ _ => True) (fun _ U o U' => ∃ v L, o = .returned v ∧ own_Q (.int (1 : Int32)) h0 n0 v U'.heap L ∧ FrameEnd U o U' L room_1.cells room_1.slots) := by
  obtain ⟨S_wJavaType_STRING, E_wJavaType_STRING, S_wAttributeType_NUMBER, E_wAttributeType_NUMBER, S_wJavaType_LONG, E_wJavaType_LONG, S_wAttributeType_STRING, E_wAttributeType_STRING, S_wJavaType_INTEGER, E_wJavaType_INTEGER, S_wJavaType_BIG_DECIMAL, E_wJavaType_BIG_DECIMAL, F_wJavaType_LONG_ordinal, F_wJavaType_STRING_ordinal, F_wJavaType_INTEGER_ordinal, F_wAttributeType_STRING_ordinal, F_wAttributeType_NUMBER_ordinal, F_wJavaType_BIG_DECIMAL_ordinal, ne_wJavaType_STRING_wJavaType_LONG, ne_wJavaType_STRING_wJavaType_INTEGER, ne_wJavaType_STRING_wJavaType_BIG_DECIMAL, ne_wAttributeType_NUMBER_wAttributeType_STRING, ne_wJavaType_LONG_wJavaType_INTEGER, ne_wJavaType_LONG_wJavaType_BIG_DECIMAL, ne_wJavaType_INTEGER_wJavaType_BIG_DECIMAL⟩ := id F
  refine MetFree.of_bodySF (plainFor_of_name own_pn_JavaTypeHoldsPinLaw) hisR ?_
  intro p e s m args below meth c s₁ Bd hml0 hP hK
  obtain ⟨rfl, hZ, hh⟩ := hP
  have hx := Bd.exec
  have hby := Bd.bytes
  have hml : c.maxLocals = 9 := hml0
  have hown : s.vm.findClass "com/example/hesiod/hesiod/dynamodb/JavaTypeHoldsPinLaw" = some m.cls := findClass_of_methodNamed Bd.named
  have X0 : Stand p l e room_1 s m #[(.int i0), (.int i1)] below meth c s₁ [] 0 0 := Stand.of_body Bd
  have e0 : s₁.heap = h0 := by rw [← hh, Bd.state]; rfl
  have N0 := Fr.nil n0
  have pre0 : ∀ t, Steps p.tables e below (s₁.setTop (mkF m 0 #[.val (.int i0), .val (.int i1), .unset, .unset, .unset, .unset, .unset, .unset, .unset] [])) t → Steps p.tables e below (s₁.setTop (entryFrame m #[(.int i0), (.int i1)] maxLocals)) t := fun t k => castTop (own_ef0_II m i0 i1) k
  obtain ⟨T1, X1, e1, st1⟩ := getS2 X0 hx hZ hown (host := "") (Or.inl (hw _ (List.mem_of_getElem? (i := 19) rfl))) Via.refl e0 S_wJavaType_BIG_DECIMAL (g := (mkF m 64 #[.val (.int i0), .val (.int i1), .val (.int (3 : Int32)), .val (.int (0 : Int32)), .unset, .unset, .unset, .unset, .unset] [])) rfl (hb hby at_64)
  obtain ⟨T2, X2, e2, st2⟩ := getS2 X1 hx hZ hown (host := "") (Or.inl (hw _ (List.mem_of_getElem? (i := 15) rfl))) Via.refl e1 S_wAttributeType_STRING (g := (mkF m 79 #[.val (.int i0), .val (.int i1), .val (.int (3 : Int32)), .val (.int (0 : Int32)), .val (.ref wJavaType_BIG_DECIMAL), .val (.int (0 : Int32)), .val (.int (1 : Int32)), .unset, .unset] [])) rfl (hb hby at_79)
  obtain ⟨cq3, kq3, q3a, q3b, q3c⟩ := isOf hZ e2 E_wJavaType_BIG_DECIMAL
  obtain ⟨_, _, ⟨T3, L3, k3, n3⟩, -, X3, ⟨Lc3, hQ3, l3, y3, z3⟩, st3⟩ := X2.virtualBack hx (y := (⟨"com/example/hesiod/hesiod/dynamodb/JavaType", "holds", "(Lcom/example/hesiod/hesiod/model/AttributeType;)Z"⟩ : MethodName)) (z := (⟨"com/example/hesiod/hesiod/dynamodb/JavaType", "holds", "(Lcom/example/hesiod/hesiod/model/AttributeType;)Z"⟩ : MethodName)) hown (mvT hZ (hw _ (List.mem_of_getElem? (i := 6) rfl))) (mvT hZ (hw _ (List.mem_of_getElem? (i := 7) rfl))) (notFace_of_selects (args := #[]) (mvT hZ (hw _ (List.mem_of_getElem? (i := 9) rfl)))) (mvT hZ (hw _ (List.mem_of_getElem? (i := 9) rfl))) (mvT hZ (hw _ (List.mem_of_getElem? (i := 8) rfl))) (by decide) (backOf (W := 0) (own_r1_14 l Z a0 hw [] wJavaType_STRING wAttributeType_NUMBER wJavaType_LONG wAttributeType_STRING wJavaType_INTEGER wJavaType_BIG_DECIMAL h0 n0 Z0 F ) hZ (hw _ (List.mem_of_getElem? (i := 10) rfl)) (hw _ (List.mem_of_getElem? (i := 1) rfl)) (by decide) (by decide)) q3a q3c (g := (mkF m 104 #[.val (.int i0), .val (.int i1), .val (.int (3 : Int32)), .val (.int (0 : Int32)), .val (.ref wJavaType_BIG_DECIMAL), .val (.int (0 : Int32)), .val (.int (1 : Int32)), .val (.ref wAttributeType_STRING), .val (.int (0 : Int32))] [(.ref wAttributeType_STRING), (.ref wJavaType_BIG_DECIMAL)])) rfl (by rw [hml]; rfl) (Steps.refl _) (argsL := [(.ref wAttributeType_STRING)]) (rest := []) (lenOf own_pd0 rfl) rfl (by show 2 * 0 + _ ≤ _; exact Nat.le_of_eq rfl) (hb hby at_104) (fun _ _ => ⟨rfl, e2, (by decide : 0 + 0 ≤ _), (by decide : 0 + 0 ≤ _)⟩)
  dsimp only [Pt.U, Pt.locs, Pt.cells, Pt.slots] at X3 l3 y3 z3 st3 hQ3
  subst l3 y3 z3
  obtain ⟨rfl, N3q, e3⟩ := hQ3
  have N3 := Fr.app N0 N3q
  obtain ⟨fs, hr, hrun, hended, hW, hsame⟩ := X3.leave (v := some (.int (1 : Int32))) (fun h => by rw [Bd.returns] at h; cases h)
  refine ⟨_, _, pre0 _ ?_, hrun, hended, _, _, rfl, ?_, ⟨_, rfl⟩, hW, hsame.mono (by decide) (by decide)⟩
  · show Steps p.tables e below (s₁.setTop (mkF m 0 #[.val (.int i0), .val (.int i1), .unset, .unset, .unset, .unset, .unset, .unset, .unset] [])) _
    refine XS.iloadN X0.here hx rfl (hb hby at_0) rfl ?_
    show Steps p.tables e below (s₁.setTop (mkF m 1 #[.val (.int i0), .val (.int i1), .unset, .unset, .unset, .unset, .unset, .unset, .unset] [(.int i0)])) _
    refine XS.iconst X0.here hx rfl (hb hby at_1) ?_
    show Steps p.tables e below (s₁.setTop (mkF m 2 #[.val (.int i0), .val (.int i1), .unset, .unset, .unset, .unset, .unset, .unset, .unset] [(.int (3 : Int32)), (.int i0)])) _
    refine XS.iand X0.here hx rfl (hb hby at_2) rfl ?_
    show Steps p.tables e below (s₁.setTop (mkF m 3 #[.val (.int i0), .val (.int i1), .unset, .unset, .unset, .unset, .unset, .unset, .unset] [(.int (i0 &&& (3 : Int32)))])) _
    rw [ht]
    show Steps p.tables e below (s₁.setTop (mkF m 3 #[.val (.int i0), .val (.int i1), .unset, .unset, .unset, .unset, .unset, .unset, .unset] [(.int (3 : Int32))])) _
    refine XS.istoreN X0.here hx rfl (hb hby at_3) rfl (l' := #[.val (.int i0), .val (.int i1), .val (.int (3 : Int32)), .unset, .unset, .unset, .unset, .unset, .unset]) rfl ?_
    show Steps p.tables e below (s₁.setTop (mkF m 4 #[.val (.int i0), .val (.int i1), .val (.int (3 : Int32)), .unset, .unset, .unset, .unset, .unset, .unset] [])) _
    refine XS.iloadN X0.here hx rfl (hb hby at_4) rfl ?_
    show Steps p.tables e below (s₁.setTop (mkF m 5 #[.val (.int i0), .val (.int i1), .val (.int (3 : Int32)), .unset, .unset, .unset, .unset, .unset, .unset] [(.int i1)])) _
    refine XS.iconst X0.here hx rfl (hb hby at_5) ?_
    show Steps p.tables e below (s₁.setTop (mkF m 6 #[.val (.int i0), .val (.int i1), .val (.int (3 : Int32)), .unset, .unset, .unset, .unset, .unset, .unset] [(.int (1 : Int32)), (.int i1)])) _
    refine XS.iand X0.here hx rfl (hb hby at_6) rfl ?_
    show Steps p.tables e below (s₁.setTop (mkF m 7 #[.val (.int i0), .val (.int i1), .val (.int (3 : Int32)), .unset, .unset, .unset, .unset, .unset, .unset] [(.int (i1 &&& (1 : Int32)))])) _
    rw [ha]
    show Steps p.tables e below (s₁.setTop (mkF m 7 #[.val (.int i0), .val (.int i1), .val (.int (3 : Int32)), .unset, .unset, .unset, .unset, .unset, .unset] [(.int (0 : Int32))])) _
    refine XS.istoreN X0.here hx rfl (hb hby at_7) rfl (l' := #[.val (.int i0), .val (.int i1), .val (.int (3 : Int32)), .val (.int (0 : Int32)), .unset, .unset, .unset, .unset, .unset]) rfl ?_
    show Steps p.tables e below (s₁.setTop (mkF m 8 #[.val (.int i0), .val (.int i1), .val (.int (3 : Int32)), .val (.int (0 : Int32)), .unset, .unset, .unset, .unset, .unset] [])) _
    refine XS.iloadN X0.here hx rfl (hb hby at_8) rfl ?_
    show Steps p.tables e below (s₁.setTop (mkF m 9 #[.val (.int i0), .val (.int i1), .val (.int (3 : Int32)), .val (.int (0 : Int32)), .unset, .unset, .unset, .unset, .unset] [(.int (3 : Int32))])) _
    refine XS.ifYes X0.here hx rfl (pc0 := 9) (pc' := 26) rfl (hb hby at_9) rfl ((if0 _ _).trans (feq (by decide : ¬ ((3 : Int32) = (0 : Int32)))).2) (by decide) (by decide) ?_
    show Steps p.tables e below (s₁.setTop (mkF m 26 #[.val (.int i0), .val (.int i1), .val (.int (3 : Int32)), .val (.int (0 : Int32)), .unset, .unset, .unset, .unset, .unset] [])) _
    refine XS.iloadN X0.here hx rfl (hb hby at_26) rfl ?_
    show Steps p.tables e below (s₁.setTop (mkF m 27 #[.val (.int i0), .val (.int i1), .val (.int (3 : Int32)), .val (.int (0 : Int32)), .unset, .unset, .unset, .unset, .unset] [(.int (3 : Int32))])) _
    refine XS.iconst X0.here hx rfl (hb hby at_27) ?_
    show Steps p.tables e below (s₁.setTop (mkF m 28 #[.val (.int i0), .val (.int i1), .val (.int (3 : Int32)), .val (.int (0 : Int32)), .unset, .unset, .unset, .unset, .unset] [(.int (1 : Int32)), (.int (3 : Int32))])) _
    refine XS.icmpYes X0.here hx rfl (pc0 := 28) (pc' := 45) rfl (hb hby at_28) rfl (feq (by decide : ¬ ((3 : Int32) = (1 : Int32)))).2 (by decide) (by decide) ?_
    show Steps p.tables e below (s₁.setTop (mkF m 45 #[.val (.int i0), .val (.int i1), .val (.int (3 : Int32)), .val (.int (0 : Int32)), .unset, .unset, .unset, .unset, .unset] [])) _
    refine XS.iloadN X0.here hx rfl (hb hby at_45) rfl ?_
    show Steps p.tables e below (s₁.setTop (mkF m 46 #[.val (.int i0), .val (.int i1), .val (.int (3 : Int32)), .val (.int (0 : Int32)), .unset, .unset, .unset, .unset, .unset] [(.int (3 : Int32))])) _
    refine XS.iconst X0.here hx rfl (hb hby at_46) ?_
    show Steps p.tables e below (s₁.setTop (mkF m 47 #[.val (.int i0), .val (.int i1), .val (.int (3 : Int32)), .val (.int (0 : Int32)), .unset, .unset, .unset, .unset, .unset] [(.int (2 : Int32)), (.int (3 : Int32))])) _
    refine XS.icmpYes X0.here hx rfl (pc0 := 47) (pc' := 64) rfl (hb hby at_47) rfl (feq (by decide : ¬ ((3 : Int32) = (2 : Int32)))).2 (by decide) (by decide) ?_
    show Steps p.tables e below (s₁.setTop (mkF m 64 #[.val (.int i0), .val (.int i1), .val (.int (3 : Int32)), .val (.int (0 : Int32)), .unset, .unset, .unset, .unset, .unset] [])) _
    refine st1 _ ?_
    show Steps p.tables e below (T1.setTop (mkF m 67 #[.val (.int i0), .val (.int i1), .val (.int (3 : Int32)), .val (.int (0 : Int32)), .unset, .unset, .unset, .unset, .unset] [(.ref wJavaType_BIG_DECIMAL)])) _
    refine XS.astore X1.here hx rfl (hb hby at_67) rfl rfl (l' := #[.val (.int i0), .val (.int i1), .val (.int (3 : Int32)), .val (.int (0 : Int32)), .val (.ref wJavaType_BIG_DECIMAL), .unset, .unset, .unset, .unset]) rfl ?_
    show Steps p.tables e below (T1.setTop (mkF m 69 #[.val (.int i0), .val (.int i1), .val (.int (3 : Int32)), .val (.int (0 : Int32)), .val (.ref wJavaType_BIG_DECIMAL), .unset, .unset, .unset, .unset] [])) _
    refine XS.iconst X1.here hx rfl (hb hby at_69) ?_
    show Steps p.tables e below (T1.setTop (mkF m 70 #[.val (.int i0), .val (.int i1), .val (.int (3 : Int32)), .val (.int (0 : Int32)), .val (.ref wJavaType_BIG_DECIMAL), .unset, .unset, .unset, .unset] [(.int (0 : Int32))])) _
    refine XS.istore X1.here hx rfl (hb hby at_70) rfl (l' := #[.val (.int i0), .val (.int i1), .val (.int (3 : Int32)), .val (.int (0 : Int32)), .val (.ref wJavaType_BIG_DECIMAL), .val (.int (0 : Int32)), .unset, .unset, .unset]) rfl ?_
    show Steps p.tables e below (T1.setTop (mkF m 72 #[.val (.int i0), .val (.int i1), .val (.int (3 : Int32)), .val (.int (0 : Int32)), .val (.ref wJavaType_BIG_DECIMAL), .val (.int (0 : Int32)), .unset, .unset, .unset] [])) _
    refine XS.iconst X1.here hx rfl (hb hby at_72) ?_
    show Steps p.tables e below (T1.setTop (mkF m 73 #[.val (.int i0), .val (.int i1), .val (.int (3 : Int32)), .val (.int (0 : Int32)), .val (.ref wJavaType_BIG_DECIMAL), .val (.int (0 : Int32)), .unset, .unset, .unset] [(.int (1 : Int32))])) _
    refine XS.istore X1.here hx rfl (hb hby at_73) rfl (l' := #[.val (.int i0), .val (.int i1), .val (.int (3 : Int32)), .val (.int (0 : Int32)), .val (.ref wJavaType_BIG_DECIMAL), .val (.int (0 : Int32)), .val (.int (1 : Int32)), .unset, .unset]) rfl ?_
    show Steps p.tables e below (T1.setTop (mkF m 75 #[.val (.int i0), .val (.int i1), .val (.int (3 : Int32)), .val (.int (0 : Int32)), .val (.ref wJavaType_BIG_DECIMAL), .val (.int (0 : Int32)), .val (.int (1 : Int32)), .unset, .unset] [])) _
    refine XS.iloadN X1.here hx rfl (hb hby at_75) rfl ?_
    show Steps p.tables e below (T1.setTop (mkF m 76 #[.val (.int i0), .val (.int i1), .val (.int (3 : Int32)), .val (.int (0 : Int32)), .val (.ref wJavaType_BIG_DECIMAL), .val (.int (0 : Int32)), .val (.int (1 : Int32)), .unset, .unset] [(.int (0 : Int32))])) _
    refine XS.ifNo X1.here hx rfl (hb hby at_76) rfl ((if0 _ _).trans (teq (by decide : (0 : Int32) = (0 : Int32))).2) ?_
    show Steps p.tables e below (T1.setTop (mkF m 79 #[.val (.int i0), .val (.int i1), .val (.int (3 : Int32)), .val (.int (0 : Int32)), .val (.ref wJavaType_BIG_DECIMAL), .val (.int (0 : Int32)), .val (.int (1 : Int32)), .unset, .unset] [])) _
    refine st2 _ ?_
    show Steps p.tables e below (T2.setTop (mkF m 82 #[.val (.int i0), .val (.int i1), .val (.int (3 : Int32)), .val (.int (0 : Int32)), .val (.ref wJavaType_BIG_DECIMAL), .val (.int (0 : Int32)), .val (.int (1 : Int32)), .unset, .unset] [(.ref wAttributeType_STRING)])) _
    refine XS.astore X2.here hx rfl (hb hby at_82) rfl rfl (l' := #[.val (.int i0), .val (.int i1), .val (.int (3 : Int32)), .val (.int (0 : Int32)), .val (.ref wJavaType_BIG_DECIMAL), .val (.int (0 : Int32)), .val (.int (1 : Int32)), .val (.ref wAttributeType_STRING), .unset]) rfl ?_
    show Steps p.tables e below (T2.setTop (mkF m 84 #[.val (.int i0), .val (.int i1), .val (.int (3 : Int32)), .val (.int (0 : Int32)), .val (.ref wJavaType_BIG_DECIMAL), .val (.int (0 : Int32)), .val (.int (1 : Int32)), .val (.ref wAttributeType_STRING), .unset] [])) _
    refine XS.iload X2.here hx rfl (hb hby at_84) rfl ?_
    show Steps p.tables e below (T2.setTop (mkF m 86 #[.val (.int i0), .val (.int i1), .val (.int (3 : Int32)), .val (.int (0 : Int32)), .val (.ref wJavaType_BIG_DECIMAL), .val (.int (0 : Int32)), .val (.int (1 : Int32)), .val (.ref wAttributeType_STRING), .unset] [(.int (0 : Int32))])) _
    refine XS.istore X2.here hx rfl (hb hby at_86) rfl (l' := #[.val (.int i0), .val (.int i1), .val (.int (3 : Int32)), .val (.int (0 : Int32)), .val (.ref wJavaType_BIG_DECIMAL), .val (.int (0 : Int32)), .val (.int (1 : Int32)), .val (.ref wAttributeType_STRING), .val (.int (0 : Int32))]) rfl ?_
    show Steps p.tables e below (T2.setTop (mkF m 88 #[.val (.int i0), .val (.int i1), .val (.int (3 : Int32)), .val (.int (0 : Int32)), .val (.ref wJavaType_BIG_DECIMAL), .val (.int (0 : Int32)), .val (.int (1 : Int32)), .val (.ref wAttributeType_STRING), .val (.int (0 : Int32))] [])) _
    refine XS.goto X2.here hx rfl (pc0 := 88) (pc' := 100) rfl (hb hby at_88) (by decide) (by decide) ?_
    show Steps p.tables e below (T2.setTop (mkF m 100 #[.val (.int i0), .val (.int i1), .val (.int (3 : Int32)), .val (.int (0 : Int32)), .val (.ref wJavaType_BIG_DECIMAL), .val (.int (0 : Int32)), .val (.int (1 : Int32)), .val (.ref wAttributeType_STRING), .val (.int (0 : Int32))] [])) _
    refine XS.aload X2.here hx rfl (hb hby at_100) rfl rfl ?_
    show Steps p.tables e below (T2.setTop (mkF m 102 #[.val (.int i0), .val (.int i1), .val (.int (3 : Int32)), .val (.int (0 : Int32)), .val (.ref wJavaType_BIG_DECIMAL), .val (.int (0 : Int32)), .val (.int (1 : Int32)), .val (.ref wAttributeType_STRING), .val (.int (0 : Int32))] [(.ref wJavaType_BIG_DECIMAL)])) _
    refine XS.aload X2.here hx rfl (hb hby at_102) rfl rfl ?_
    show Steps p.tables e below (T2.setTop (mkF m 104 #[.val (.int i0), .val (.int i1), .val (.int (3 : Int32)), .val (.int (0 : Int32)), .val (.ref wJavaType_BIG_DECIMAL), .val (.int (0 : Int32)), .val (.int (1 : Int32)), .val (.ref wAttributeType_STRING), .val (.int (0 : Int32))] [(.ref wAttributeType_STRING), (.ref wJavaType_BIG_DECIMAL)])) _
    refine st3.trans ?_
    show Steps p.tables e below (T3.setTop (mkF m 107 #[.val (.int i0), .val (.int i1), .val (.int (3 : Int32)), .val (.int (0 : Int32)), .val (.ref wJavaType_BIG_DECIMAL), .val (.int (0 : Int32)), .val (.int (1 : Int32)), .val (.ref wAttributeType_STRING), .val (.int (0 : Int32))] [(.int (0 : Int32))])) _
    refine XS.iload X3.here hx rfl (hb hby at_107) rfl ?_
    show Steps p.tables e below (T3.setTop (mkF m 109 #[.val (.int i0), .val (.int i1), .val (.int (3 : Int32)), .val (.int (0 : Int32)), .val (.ref wJavaType_BIG_DECIMAL), .val (.int (0 : Int32)), .val (.int (1 : Int32)), .val (.ref wAttributeType_STRING), .val (.int (0 : Int32))] [(.int (0 : Int32)), (.int (0 : Int32))])) _
    refine XS.icmpNo X3.here hx rfl (hb hby at_109) rfl (teq (by decide : (0 : Int32) = (0 : Int32))).2 ?_
    show Steps p.tables e below (T3.setTop (mkF m 112 #[.val (.int i0), .val (.int i1), .val (.int (3 : Int32)), .val (.int (0 : Int32)), .val (.ref wJavaType_BIG_DECIMAL), .val (.int (0 : Int32)), .val (.int (1 : Int32)), .val (.ref wAttributeType_STRING), .val (.int (0 : Int32))] [])) _
    refine XS.iconst X3.here hx rfl (hb hby at_112) ?_
    show Steps p.tables e below (T3.setTop (mkF m 113 #[.val (.int i0), .val (.int i1), .val (.int (3 : Int32)), .val (.int (0 : Int32)), .val (.ref wJavaType_BIG_DECIMAL), .val (.int (0 : Int32)), .val (.int (1 : Int32)), .val (.ref wAttributeType_STRING), .val (.int (0 : Int32))] [(.int (1 : Int32))])) _
    refine XS.goto X3.here hx rfl (pc0 := 113) (pc' := 117) rfl (hb hby at_113) (by decide) (by decide) ?_
    show Steps p.tables e below (T3.setTop (mkF m 117 #[.val (.int i0), .val (.int i1), .val (.int (3 : Int32)), .val (.int (0 : Int32)), .val (.ref wJavaType_BIG_DECIMAL), .val (.int (0 : Int32)), .val (.int (1 : Int32)), .val (.ref wAttributeType_STRING), .val (.int (0 : Int32))] [(.int (1 : Int32))])) _
    exact retN X3 hx (t := .boolean) Bd.returns (by simp) (hb hby at_117) hr
  · exact ⟨rfl, N3, e3⟩
set_option maxRecDepth 65536 in
set_option maxHeartbeats 40000000 in
theorem own_r1_16 (l : Launch) (Z : State) (a0 : Array Value) (hw : ∀ d ∈ tables_1, d.before a0 Z = true) (ws : List Jvm.Cond) (wJavaType_STRING : Addr) (wAttributeType_NUMBER : Addr) (wJavaType_LONG : Addr) (wAttributeType_STRING : Addr) (wJavaType_INTEGER : Addr) (wJavaType_BIG_DECIMAL : Addr) (h0 : Heap) (n0 : Nat) (Z0 : n0 ≤ h0.size) (F : own_W Z h0 wJavaType_STRING wAttributeType_NUMBER wJavaType_LONG wAttributeType_STRING wJavaType_INTEGER wJavaType_BIG_DECIMAL)   :
    MetFree l (⟨"com/example/hesiod/hesiod/dynamodb/JavaType", "holds", "(Lcom/example/hesiod/hesiod/model/AttributeType;)Z"⟩ : MethodName) (head1 (Jvm.Cond.code (⟨"com/example/hesiod/hesiod/dynamodb/JavaType", "holds", "(Lcom/example/hesiod/hesiod/model/AttributeType;)Z"⟩ : MethodName) prog_3_method_5_code 2 (some .boolean) :: ws) ({ frames := 0, cells := 0, slots := 0, locals := 0 } : Room)) (fun a U => a = #[(.ref wJavaType_BIG_DECIMAL), (.ref wAttributeType_NUMBER)] ∧ Z.Warmed39 U.vm ∧ U.heap = h0) (fun _ _ _ _ _ => True) (fun _ U o U' => ∃ v L, o = .returned v ∧ own_Q (.int (1 : Int32)) h0 n0 v U'.heap L ∧ FrameEnd U o U' L ({ frames := 0, cells := 0, slots := 0, locals := 0 } : Room).cells ({ frames := 0, cells := 0, slots := 0, locals := 0 } : Room).slots) := by
  obtain ⟨S_wJavaType_STRING, E_wJavaType_STRING, S_wAttributeType_NUMBER, E_wAttributeType_NUMBER, S_wJavaType_LONG, E_wJavaType_LONG, S_wAttributeType_STRING, E_wAttributeType_STRING, S_wJavaType_INTEGER, E_wJavaType_INTEGER, S_wJavaType_BIG_DECIMAL, E_wJavaType_BIG_DECIMAL, F_wJavaType_LONG_ordinal, F_wJavaType_STRING_ordinal, F_wJavaType_INTEGER_ordinal, F_wAttributeType_STRING_ordinal, F_wAttributeType_NUMBER_ordinal, F_wJavaType_BIG_DECIMAL_ordinal, ne_wJavaType_STRING_wJavaType_LONG, ne_wJavaType_STRING_wJavaType_INTEGER, ne_wJavaType_STRING_wJavaType_BIG_DECIMAL, ne_wAttributeType_NUMBER_wAttributeType_STRING, ne_wJavaType_LONG_wJavaType_INTEGER, ne_wJavaType_LONG_wJavaType_BIG_DECIMAL, ne_wJavaType_INTEGER_wJavaType_BIG_DECIMAL⟩ := id F
  refine MetFree.of_bodySF (plainFor_of_name own_pn_JavaType) hisR ?_
  intro p e s m args below meth c s₁ Bd hml0 hP hK
  obtain ⟨rfl, hZ, hh⟩ := hP
  have hx := Bd.exec
  have hby := Bd.bytes
  have hml : c.maxLocals = 2 := hml0
  have hown : s.vm.findClass "com/example/hesiod/hesiod/dynamodb/JavaType" = some m.cls := findClass_of_methodNamed Bd.named
  have X0 : Stand p l e ({ frames := 0, cells := 0, slots := 0, locals := 0 } : Room) s m #[(.ref wJavaType_BIG_DECIMAL), (.ref wAttributeType_NUMBER)] below meth c s₁ [] 0 0 := Stand.of_body Bd
  have e0 : s₁.heap = h0 := by rw [← hh, Bd.state]; rfl
  have N0 := Fr.nil n0
  have pre0 : ∀ t, Steps p.tables e below (s₁.setTop (mkF m 0 #[.val (.ref wJavaType_BIG_DECIMAL), .val (.ref wAttributeType_NUMBER)] [])) t → Steps p.tables e below (s₁.setTop (entryFrame m #[(.ref wJavaType_BIG_DECIMAL), (.ref wAttributeType_NUMBER)] 2)) t := fun t k => castTop (own_ef1_RR m wJavaType_BIG_DECIMAL wAttributeType_NUMBER) k
  obtain ⟨T1, X1, e1, st1⟩ := getS2 X0 hx hZ hown (host := "") (Or.inl (hw _ (List.mem_of_getElem? (i := 11) rfl))) Via.refl e0 S_wJavaType_STRING (g := (mkF m 1 #[.val (.ref wJavaType_BIG_DECIMAL), .val (.ref wAttributeType_NUMBER)] [(.ref wJavaType_BIG_DECIMAL)])) rfl (hb hby own_d1_1)
  obtain ⟨T2, X2, e2, st2⟩ := getS2 X1 hx hZ hown (host := "") (Or.inl (hw _ (List.mem_of_getElem? (i := 14) rfl))) Via.refl e1 S_wAttributeType_NUMBER (g := (mkF m 8 #[.val (.ref wJavaType_BIG_DECIMAL), .val (.ref wAttributeType_NUMBER)] [(.ref wAttributeType_NUMBER)])) rfl (hb hby own_d1_8)
  obtain ⟨fs, hr, hrun, hended, hW, hsame⟩ := X2.leave (v := some (.int (1 : Int32))) (fun h => by rw [Bd.returns] at h; cases h)
  refine ⟨_, _, pre0 _ ?_, hrun, hended, _, _, rfl, ?_, ⟨_, rfl⟩, hW, hsame.mono (by decide) (by decide)⟩
  · show Steps p.tables e below (s₁.setTop (mkF m 0 #[.val (.ref wJavaType_BIG_DECIMAL), .val (.ref wAttributeType_NUMBER)] [])) _
    refine XS.aloadN X0.here hx rfl (hb hby own_d1_0) rfl rfl ?_
    show Steps p.tables e below (s₁.setTop (mkF m 1 #[.val (.ref wJavaType_BIG_DECIMAL), .val (.ref wAttributeType_NUMBER)] [(.ref wJavaType_BIG_DECIMAL)])) _
    refine st1 _ ?_
    show Steps p.tables e below (T1.setTop (mkF m 4 #[.val (.ref wJavaType_BIG_DECIMAL), .val (.ref wAttributeType_NUMBER)] [(.ref wJavaType_STRING), (.ref wJavaType_BIG_DECIMAL)])) _
    refine Jvm.RoadKit.acmp (g := (mkF m 4 #[.val (.ref wJavaType_BIG_DECIMAL), .val (.ref wAttributeType_NUMBER)] [(.ref wJavaType_STRING), (.ref wJavaType_BIG_DECIMAL)])) X1 hx rfl rfl rfl (pc0 := 4) (pc' := 7) (same := false) rfl (hb hby own_d1_4) rfl (decide_eq_false fun q => (Ne.symm ne_wJavaType_STRING_wJavaType_BIG_DECIMAL) (Value.ref.inj q)) (by decide) (by decide) ?_
    show Steps p.tables e below (T1.setTop (mkF m 7 #[.val (.ref wJavaType_BIG_DECIMAL), .val (.ref wAttributeType_NUMBER)] [])) _
    refine XS.aloadN X1.here hx rfl (hb hby own_d1_7) rfl rfl ?_
    show Steps p.tables e below (T1.setTop (mkF m 8 #[.val (.ref wJavaType_BIG_DECIMAL), .val (.ref wAttributeType_NUMBER)] [(.ref wAttributeType_NUMBER)])) _
    refine st2 _ ?_
    show Steps p.tables e below (T2.setTop (mkF m 11 #[.val (.ref wJavaType_BIG_DECIMAL), .val (.ref wAttributeType_NUMBER)] [(.ref wAttributeType_NUMBER), (.ref wAttributeType_NUMBER)])) _
    refine Jvm.RoadKit.acmp (g := (mkF m 11 #[.val (.ref wJavaType_BIG_DECIMAL), .val (.ref wAttributeType_NUMBER)] [(.ref wAttributeType_NUMBER), (.ref wAttributeType_NUMBER)])) X2 hx rfl rfl rfl (pc0 := 11) (pc' := 14) (same := true) rfl (hb hby own_d1_11) rfl (decide_eq_true rfl) (by decide) (by decide) ?_
    show Steps p.tables e below (T2.setTop (mkF m 14 #[.val (.ref wJavaType_BIG_DECIMAL), .val (.ref wAttributeType_NUMBER)] [])) _
    refine XS.iconst X2.here hx rfl (hb hby own_d1_14) ?_
    show Steps p.tables e below (T2.setTop (mkF m 15 #[.val (.ref wJavaType_BIG_DECIMAL), .val (.ref wAttributeType_NUMBER)] [(.int (1 : Int32))])) _
    refine XS.goto X2.here hx rfl (pc0 := 15) (pc' := 19) rfl (hb hby own_d1_15) (by decide) (by decide) ?_
    show Steps p.tables e below (T2.setTop (mkF m 19 #[.val (.ref wJavaType_BIG_DECIMAL), .val (.ref wAttributeType_NUMBER)] [(.int (1 : Int32))])) _
    exact retN X2 hx (t := .boolean) Bd.returns (by simp) (hb hby own_d1_19) hr
  · exact ⟨rfl, N0, e2⟩
set_option maxRecDepth 65536 in
set_option maxHeartbeats 40000000 in
theorem own_r0_t3a1 (l : Launch) (Z : State) (a0 : Array Value) (hw : ∀ d ∈ tables_1, d.before a0 Z = true) (ws : List Jvm.Cond) (wJavaType_STRING : Addr) (wAttributeType_NUMBER : Addr) (wJavaType_LONG : Addr) (wAttributeType_STRING : Addr) (wJavaType_INTEGER : Addr) (wJavaType_BIG_DECIMAL : Addr) (h0 : Heap) (n0 : Nat) (Z0 : n0 ≤ h0.size) (F : own_W Z h0 wJavaType_STRING wAttributeType_NUMBER wJavaType_LONG wAttributeType_STRING wJavaType_INTEGER wJavaType_BIG_DECIMAL) (i0 : Int32) (i1 : Int32) (ht : (i0 &&& (3 : Int32)) = (3 : Int32)) (ha : (i1 &&& (1 : Int32)) = (1 : Int32)) :
    MetFree l x (head1 (Jvm.Cond.code x code maxLocals ret :: ws) room_1) (fun a U => a = #[(.int i0), (.int i1)] ∧ Z.Warmed39 U.vm ∧ U.heap = h0) (fun _ _ _ _ _ => True) (fun _ U o U' => ∃ v L, o = .returned v ∧ own_Q (.int (1 : Int32)) h0 n0 v U'.heap L ∧ FrameEnd U o U' L room_1.cells room_1.slots) := by
  obtain ⟨S_wJavaType_STRING, E_wJavaType_STRING, S_wAttributeType_NUMBER, E_wAttributeType_NUMBER, S_wJavaType_LONG, E_wJavaType_LONG, S_wAttributeType_STRING, E_wAttributeType_STRING, S_wJavaType_INTEGER, E_wJavaType_INTEGER, S_wJavaType_BIG_DECIMAL, E_wJavaType_BIG_DECIMAL, F_wJavaType_LONG_ordinal, F_wJavaType_STRING_ordinal, F_wJavaType_INTEGER_ordinal, F_wAttributeType_STRING_ordinal, F_wAttributeType_NUMBER_ordinal, F_wJavaType_BIG_DECIMAL_ordinal, ne_wJavaType_STRING_wJavaType_LONG, ne_wJavaType_STRING_wJavaType_INTEGER, ne_wJavaType_STRING_wJavaType_BIG_DECIMAL, ne_wAttributeType_NUMBER_wAttributeType_STRING, ne_wJavaType_LONG_wJavaType_INTEGER, ne_wJavaType_LONG_wJavaType_BIG_DECIMAL, ne_wJavaType_INTEGER_wJavaType_BIG_DECIMAL⟩ := id F
  refine MetFree.of_bodySF (plainFor_of_name own_pn_JavaTypeHoldsPinLaw) hisR ?_
  intro p e s m args below meth c s₁ Bd hml0 hP hK
  obtain ⟨rfl, hZ, hh⟩ := hP
  have hx := Bd.exec
  have hby := Bd.bytes
  have hml : c.maxLocals = 9 := hml0
  have hown : s.vm.findClass "com/example/hesiod/hesiod/dynamodb/JavaTypeHoldsPinLaw" = some m.cls := findClass_of_methodNamed Bd.named
  have X0 : Stand p l e room_1 s m #[(.int i0), (.int i1)] below meth c s₁ [] 0 0 := Stand.of_body Bd
  have e0 : s₁.heap = h0 := by rw [← hh, Bd.state]; rfl
  have N0 := Fr.nil n0
  have pre0 : ∀ t, Steps p.tables e below (s₁.setTop (mkF m 0 #[.val (.int i0), .val (.int i1), .unset, .unset, .unset, .unset, .unset, .unset, .unset] [])) t → Steps p.tables e below (s₁.setTop (entryFrame m #[(.int i0), (.int i1)] maxLocals)) t := fun t k => castTop (own_ef0_II m i0 i1) k
  obtain ⟨T1, X1, e1, st1⟩ := getS2 X0 hx hZ hown (host := "") (Or.inl (hw _ (List.mem_of_getElem? (i := 19) rfl))) Via.refl e0 S_wJavaType_BIG_DECIMAL (g := (mkF m 64 #[.val (.int i0), .val (.int i1), .val (.int (3 : Int32)), .val (.int (1 : Int32)), .unset, .unset, .unset, .unset, .unset] [])) rfl (hb hby at_64)
  obtain ⟨T2, X2, e2, st2⟩ := getS2 X1 hx hZ hown (host := "") (Or.inl (hw _ (List.mem_of_getElem? (i := 3) rfl))) Via.refl e1 S_wAttributeType_NUMBER (g := (mkF m 91 #[.val (.int i0), .val (.int i1), .val (.int (3 : Int32)), .val (.int (1 : Int32)), .val (.ref wJavaType_BIG_DECIMAL), .val (.int (0 : Int32)), .val (.int (1 : Int32)), .unset, .unset] [])) rfl (hb hby at_91)
  obtain ⟨cq3, kq3, q3a, q3b, q3c⟩ := isOf hZ e2 E_wJavaType_BIG_DECIMAL
  obtain ⟨_, _, ⟨T3, L3, k3, n3⟩, -, X3, ⟨Lc3, hQ3, l3, y3, z3⟩, st3⟩ := X2.virtualBack hx (y := (⟨"com/example/hesiod/hesiod/dynamodb/JavaType", "holds", "(Lcom/example/hesiod/hesiod/model/AttributeType;)Z"⟩ : MethodName)) (z := (⟨"com/example/hesiod/hesiod/dynamodb/JavaType", "holds", "(Lcom/example/hesiod/hesiod/model/AttributeType;)Z"⟩ : MethodName)) hown (mvT hZ (hw _ (List.mem_of_getElem? (i := 6) rfl))) (mvT hZ (hw _ (List.mem_of_getElem? (i := 7) rfl))) (notFace_of_selects (args := #[]) (mvT hZ (hw _ (List.mem_of_getElem? (i := 9) rfl)))) (mvT hZ (hw _ (List.mem_of_getElem? (i := 9) rfl))) (mvT hZ (hw _ (List.mem_of_getElem? (i := 8) rfl))) (by decide) (backOf (W := 0) (own_r1_16 l Z a0 hw [] wJavaType_STRING wAttributeType_NUMBER wJavaType_LONG wAttributeType_STRING wJavaType_INTEGER wJavaType_BIG_DECIMAL h0 n0 Z0 F ) hZ (hw _ (List.mem_of_getElem? (i := 10) rfl)) (hw _ (List.mem_of_getElem? (i := 1) rfl)) (by decide) (by decide)) q3a q3c (g := (mkF m 104 #[.val (.int i0), .val (.int i1), .val (.int (3 : Int32)), .val (.int (1 : Int32)), .val (.ref wJavaType_BIG_DECIMAL), .val (.int (0 : Int32)), .val (.int (1 : Int32)), .val (.ref wAttributeType_NUMBER), .val (.int (1 : Int32))] [(.ref wAttributeType_NUMBER), (.ref wJavaType_BIG_DECIMAL)])) rfl (by rw [hml]; rfl) (Steps.refl _) (argsL := [(.ref wAttributeType_NUMBER)]) (rest := []) (lenOf own_pd0 rfl) rfl (by show 2 * 0 + _ ≤ _; exact Nat.le_of_eq rfl) (hb hby at_104) (fun _ _ => ⟨rfl, e2, (by decide : 0 + 0 ≤ _), (by decide : 0 + 0 ≤ _)⟩)
  dsimp only [Pt.U, Pt.locs, Pt.cells, Pt.slots] at X3 l3 y3 z3 st3 hQ3
  subst l3 y3 z3
  obtain ⟨rfl, N3q, e3⟩ := hQ3
  have N3 := Fr.app N0 N3q
  obtain ⟨fs, hr, hrun, hended, hW, hsame⟩ := X3.leave (v := some (.int (1 : Int32))) (fun h => by rw [Bd.returns] at h; cases h)
  refine ⟨_, _, pre0 _ ?_, hrun, hended, _, _, rfl, ?_, ⟨_, rfl⟩, hW, hsame.mono (by decide) (by decide)⟩
  · show Steps p.tables e below (s₁.setTop (mkF m 0 #[.val (.int i0), .val (.int i1), .unset, .unset, .unset, .unset, .unset, .unset, .unset] [])) _
    refine XS.iloadN X0.here hx rfl (hb hby at_0) rfl ?_
    show Steps p.tables e below (s₁.setTop (mkF m 1 #[.val (.int i0), .val (.int i1), .unset, .unset, .unset, .unset, .unset, .unset, .unset] [(.int i0)])) _
    refine XS.iconst X0.here hx rfl (hb hby at_1) ?_
    show Steps p.tables e below (s₁.setTop (mkF m 2 #[.val (.int i0), .val (.int i1), .unset, .unset, .unset, .unset, .unset, .unset, .unset] [(.int (3 : Int32)), (.int i0)])) _
    refine XS.iand X0.here hx rfl (hb hby at_2) rfl ?_
    show Steps p.tables e below (s₁.setTop (mkF m 3 #[.val (.int i0), .val (.int i1), .unset, .unset, .unset, .unset, .unset, .unset, .unset] [(.int (i0 &&& (3 : Int32)))])) _
    rw [ht]
    show Steps p.tables e below (s₁.setTop (mkF m 3 #[.val (.int i0), .val (.int i1), .unset, .unset, .unset, .unset, .unset, .unset, .unset] [(.int (3 : Int32))])) _
    refine XS.istoreN X0.here hx rfl (hb hby at_3) rfl (l' := #[.val (.int i0), .val (.int i1), .val (.int (3 : Int32)), .unset, .unset, .unset, .unset, .unset, .unset]) rfl ?_
    show Steps p.tables e below (s₁.setTop (mkF m 4 #[.val (.int i0), .val (.int i1), .val (.int (3 : Int32)), .unset, .unset, .unset, .unset, .unset, .unset] [])) _
    refine XS.iloadN X0.here hx rfl (hb hby at_4) rfl ?_
    show Steps p.tables e below (s₁.setTop (mkF m 5 #[.val (.int i0), .val (.int i1), .val (.int (3 : Int32)), .unset, .unset, .unset, .unset, .unset, .unset] [(.int i1)])) _
    refine XS.iconst X0.here hx rfl (hb hby at_5) ?_
    show Steps p.tables e below (s₁.setTop (mkF m 6 #[.val (.int i0), .val (.int i1), .val (.int (3 : Int32)), .unset, .unset, .unset, .unset, .unset, .unset] [(.int (1 : Int32)), (.int i1)])) _
    refine XS.iand X0.here hx rfl (hb hby at_6) rfl ?_
    show Steps p.tables e below (s₁.setTop (mkF m 7 #[.val (.int i0), .val (.int i1), .val (.int (3 : Int32)), .unset, .unset, .unset, .unset, .unset, .unset] [(.int (i1 &&& (1 : Int32)))])) _
    rw [ha]
    show Steps p.tables e below (s₁.setTop (mkF m 7 #[.val (.int i0), .val (.int i1), .val (.int (3 : Int32)), .unset, .unset, .unset, .unset, .unset, .unset] [(.int (1 : Int32))])) _
    refine XS.istoreN X0.here hx rfl (hb hby at_7) rfl (l' := #[.val (.int i0), .val (.int i1), .val (.int (3 : Int32)), .val (.int (1 : Int32)), .unset, .unset, .unset, .unset, .unset]) rfl ?_
    show Steps p.tables e below (s₁.setTop (mkF m 8 #[.val (.int i0), .val (.int i1), .val (.int (3 : Int32)), .val (.int (1 : Int32)), .unset, .unset, .unset, .unset, .unset] [])) _
    refine XS.iloadN X0.here hx rfl (hb hby at_8) rfl ?_
    show Steps p.tables e below (s₁.setTop (mkF m 9 #[.val (.int i0), .val (.int i1), .val (.int (3 : Int32)), .val (.int (1 : Int32)), .unset, .unset, .unset, .unset, .unset] [(.int (3 : Int32))])) _
    refine XS.ifYes X0.here hx rfl (pc0 := 9) (pc' := 26) rfl (hb hby at_9) rfl ((if0 _ _).trans (feq (by decide : ¬ ((3 : Int32) = (0 : Int32)))).2) (by decide) (by decide) ?_
    show Steps p.tables e below (s₁.setTop (mkF m 26 #[.val (.int i0), .val (.int i1), .val (.int (3 : Int32)), .val (.int (1 : Int32)), .unset, .unset, .unset, .unset, .unset] [])) _
    refine XS.iloadN X0.here hx rfl (hb hby at_26) rfl ?_
    show Steps p.tables e below (s₁.setTop (mkF m 27 #[.val (.int i0), .val (.int i1), .val (.int (3 : Int32)), .val (.int (1 : Int32)), .unset, .unset, .unset, .unset, .unset] [(.int (3 : Int32))])) _
    refine XS.iconst X0.here hx rfl (hb hby at_27) ?_
    show Steps p.tables e below (s₁.setTop (mkF m 28 #[.val (.int i0), .val (.int i1), .val (.int (3 : Int32)), .val (.int (1 : Int32)), .unset, .unset, .unset, .unset, .unset] [(.int (1 : Int32)), (.int (3 : Int32))])) _
    refine XS.icmpYes X0.here hx rfl (pc0 := 28) (pc' := 45) rfl (hb hby at_28) rfl (feq (by decide : ¬ ((3 : Int32) = (1 : Int32)))).2 (by decide) (by decide) ?_
    show Steps p.tables e below (s₁.setTop (mkF m 45 #[.val (.int i0), .val (.int i1), .val (.int (3 : Int32)), .val (.int (1 : Int32)), .unset, .unset, .unset, .unset, .unset] [])) _
    refine XS.iloadN X0.here hx rfl (hb hby at_45) rfl ?_
    show Steps p.tables e below (s₁.setTop (mkF m 46 #[.val (.int i0), .val (.int i1), .val (.int (3 : Int32)), .val (.int (1 : Int32)), .unset, .unset, .unset, .unset, .unset] [(.int (3 : Int32))])) _
    refine XS.iconst X0.here hx rfl (hb hby at_46) ?_
    show Steps p.tables e below (s₁.setTop (mkF m 47 #[.val (.int i0), .val (.int i1), .val (.int (3 : Int32)), .val (.int (1 : Int32)), .unset, .unset, .unset, .unset, .unset] [(.int (2 : Int32)), (.int (3 : Int32))])) _
    refine XS.icmpYes X0.here hx rfl (pc0 := 47) (pc' := 64) rfl (hb hby at_47) rfl (feq (by decide : ¬ ((3 : Int32) = (2 : Int32)))).2 (by decide) (by decide) ?_
    show Steps p.tables e below (s₁.setTop (mkF m 64 #[.val (.int i0), .val (.int i1), .val (.int (3 : Int32)), .val (.int (1 : Int32)), .unset, .unset, .unset, .unset, .unset] [])) _
    refine st1 _ ?_
    show Steps p.tables e below (T1.setTop (mkF m 67 #[.val (.int i0), .val (.int i1), .val (.int (3 : Int32)), .val (.int (1 : Int32)), .unset, .unset, .unset, .unset, .unset] [(.ref wJavaType_BIG_DECIMAL)])) _
    refine XS.astore X1.here hx rfl (hb hby at_67) rfl rfl (l' := #[.val (.int i0), .val (.int i1), .val (.int (3 : Int32)), .val (.int (1 : Int32)), .val (.ref wJavaType_BIG_DECIMAL), .unset, .unset, .unset, .unset]) rfl ?_
    show Steps p.tables e below (T1.setTop (mkF m 69 #[.val (.int i0), .val (.int i1), .val (.int (3 : Int32)), .val (.int (1 : Int32)), .val (.ref wJavaType_BIG_DECIMAL), .unset, .unset, .unset, .unset] [])) _
    refine XS.iconst X1.here hx rfl (hb hby at_69) ?_
    show Steps p.tables e below (T1.setTop (mkF m 70 #[.val (.int i0), .val (.int i1), .val (.int (3 : Int32)), .val (.int (1 : Int32)), .val (.ref wJavaType_BIG_DECIMAL), .unset, .unset, .unset, .unset] [(.int (0 : Int32))])) _
    refine XS.istore X1.here hx rfl (hb hby at_70) rfl (l' := #[.val (.int i0), .val (.int i1), .val (.int (3 : Int32)), .val (.int (1 : Int32)), .val (.ref wJavaType_BIG_DECIMAL), .val (.int (0 : Int32)), .unset, .unset, .unset]) rfl ?_
    show Steps p.tables e below (T1.setTop (mkF m 72 #[.val (.int i0), .val (.int i1), .val (.int (3 : Int32)), .val (.int (1 : Int32)), .val (.ref wJavaType_BIG_DECIMAL), .val (.int (0 : Int32)), .unset, .unset, .unset] [])) _
    refine XS.iconst X1.here hx rfl (hb hby at_72) ?_
    show Steps p.tables e below (T1.setTop (mkF m 73 #[.val (.int i0), .val (.int i1), .val (.int (3 : Int32)), .val (.int (1 : Int32)), .val (.ref wJavaType_BIG_DECIMAL), .val (.int (0 : Int32)), .unset, .unset, .unset] [(.int (1 : Int32))])) _
    refine XS.istore X1.here hx rfl (hb hby at_73) rfl (l' := #[.val (.int i0), .val (.int i1), .val (.int (3 : Int32)), .val (.int (1 : Int32)), .val (.ref wJavaType_BIG_DECIMAL), .val (.int (0 : Int32)), .val (.int (1 : Int32)), .unset, .unset]) rfl ?_
    show Steps p.tables e below (T1.setTop (mkF m 75 #[.val (.int i0), .val (.int i1), .val (.int (3 : Int32)), .val (.int (1 : Int32)), .val (.ref wJavaType_BIG_DECIMAL), .val (.int (0 : Int32)), .val (.int (1 : Int32)), .unset, .unset] [])) _
    refine XS.iloadN X1.here hx rfl (hb hby at_75) rfl ?_
    show Steps p.tables e below (T1.setTop (mkF m 76 #[.val (.int i0), .val (.int i1), .val (.int (3 : Int32)), .val (.int (1 : Int32)), .val (.ref wJavaType_BIG_DECIMAL), .val (.int (0 : Int32)), .val (.int (1 : Int32)), .unset, .unset] [(.int (1 : Int32))])) _
    refine XS.ifYes X1.here hx rfl (pc0 := 76) (pc' := 91) rfl (hb hby at_76) rfl ((if0 _ _).trans (feq (by decide : ¬ ((1 : Int32) = (0 : Int32)))).2) (by decide) (by decide) ?_
    show Steps p.tables e below (T1.setTop (mkF m 91 #[.val (.int i0), .val (.int i1), .val (.int (3 : Int32)), .val (.int (1 : Int32)), .val (.ref wJavaType_BIG_DECIMAL), .val (.int (0 : Int32)), .val (.int (1 : Int32)), .unset, .unset] [])) _
    refine st2 _ ?_
    show Steps p.tables e below (T2.setTop (mkF m 94 #[.val (.int i0), .val (.int i1), .val (.int (3 : Int32)), .val (.int (1 : Int32)), .val (.ref wJavaType_BIG_DECIMAL), .val (.int (0 : Int32)), .val (.int (1 : Int32)), .unset, .unset] [(.ref wAttributeType_NUMBER)])) _
    refine XS.astore X2.here hx rfl (hb hby at_94) rfl rfl (l' := #[.val (.int i0), .val (.int i1), .val (.int (3 : Int32)), .val (.int (1 : Int32)), .val (.ref wJavaType_BIG_DECIMAL), .val (.int (0 : Int32)), .val (.int (1 : Int32)), .val (.ref wAttributeType_NUMBER), .unset]) rfl ?_
    show Steps p.tables e below (T2.setTop (mkF m 96 #[.val (.int i0), .val (.int i1), .val (.int (3 : Int32)), .val (.int (1 : Int32)), .val (.ref wJavaType_BIG_DECIMAL), .val (.int (0 : Int32)), .val (.int (1 : Int32)), .val (.ref wAttributeType_NUMBER), .unset] [])) _
    refine XS.iload X2.here hx rfl (hb hby at_96) rfl ?_
    show Steps p.tables e below (T2.setTop (mkF m 98 #[.val (.int i0), .val (.int i1), .val (.int (3 : Int32)), .val (.int (1 : Int32)), .val (.ref wJavaType_BIG_DECIMAL), .val (.int (0 : Int32)), .val (.int (1 : Int32)), .val (.ref wAttributeType_NUMBER), .unset] [(.int (1 : Int32))])) _
    refine XS.istore X2.here hx rfl (hb hby at_98) rfl (l' := #[.val (.int i0), .val (.int i1), .val (.int (3 : Int32)), .val (.int (1 : Int32)), .val (.ref wJavaType_BIG_DECIMAL), .val (.int (0 : Int32)), .val (.int (1 : Int32)), .val (.ref wAttributeType_NUMBER), .val (.int (1 : Int32))]) rfl ?_
    show Steps p.tables e below (T2.setTop (mkF m 100 #[.val (.int i0), .val (.int i1), .val (.int (3 : Int32)), .val (.int (1 : Int32)), .val (.ref wJavaType_BIG_DECIMAL), .val (.int (0 : Int32)), .val (.int (1 : Int32)), .val (.ref wAttributeType_NUMBER), .val (.int (1 : Int32))] [])) _
    refine XS.aload X2.here hx rfl (hb hby at_100) rfl rfl ?_
    show Steps p.tables e below (T2.setTop (mkF m 102 #[.val (.int i0), .val (.int i1), .val (.int (3 : Int32)), .val (.int (1 : Int32)), .val (.ref wJavaType_BIG_DECIMAL), .val (.int (0 : Int32)), .val (.int (1 : Int32)), .val (.ref wAttributeType_NUMBER), .val (.int (1 : Int32))] [(.ref wJavaType_BIG_DECIMAL)])) _
    refine XS.aload X2.here hx rfl (hb hby at_102) rfl rfl ?_
    show Steps p.tables e below (T2.setTop (mkF m 104 #[.val (.int i0), .val (.int i1), .val (.int (3 : Int32)), .val (.int (1 : Int32)), .val (.ref wJavaType_BIG_DECIMAL), .val (.int (0 : Int32)), .val (.int (1 : Int32)), .val (.ref wAttributeType_NUMBER), .val (.int (1 : Int32))] [(.ref wAttributeType_NUMBER), (.ref wJavaType_BIG_DECIMAL)])) _
    refine st3.trans ?_
    show Steps p.tables e below (T3.setTop (mkF m 107 #[.val (.int i0), .val (.int i1), .val (.int (3 : Int32)), .val (.int (1 : Int32)), .val (.ref wJavaType_BIG_DECIMAL), .val (.int (0 : Int32)), .val (.int (1 : Int32)), .val (.ref wAttributeType_NUMBER), .val (.int (1 : Int32))] [(.int (1 : Int32))])) _
    refine XS.iload X3.here hx rfl (hb hby at_107) rfl ?_
    show Steps p.tables e below (T3.setTop (mkF m 109 #[.val (.int i0), .val (.int i1), .val (.int (3 : Int32)), .val (.int (1 : Int32)), .val (.ref wJavaType_BIG_DECIMAL), .val (.int (0 : Int32)), .val (.int (1 : Int32)), .val (.ref wAttributeType_NUMBER), .val (.int (1 : Int32))] [(.int (1 : Int32)), (.int (1 : Int32))])) _
    refine XS.icmpNo X3.here hx rfl (hb hby at_109) rfl (teq (by decide : (1 : Int32) = (1 : Int32))).2 ?_
    show Steps p.tables e below (T3.setTop (mkF m 112 #[.val (.int i0), .val (.int i1), .val (.int (3 : Int32)), .val (.int (1 : Int32)), .val (.ref wJavaType_BIG_DECIMAL), .val (.int (0 : Int32)), .val (.int (1 : Int32)), .val (.ref wAttributeType_NUMBER), .val (.int (1 : Int32))] [])) _
    refine XS.iconst X3.here hx rfl (hb hby at_112) ?_
    show Steps p.tables e below (T3.setTop (mkF m 113 #[.val (.int i0), .val (.int i1), .val (.int (3 : Int32)), .val (.int (1 : Int32)), .val (.ref wJavaType_BIG_DECIMAL), .val (.int (0 : Int32)), .val (.int (1 : Int32)), .val (.ref wAttributeType_NUMBER), .val (.int (1 : Int32))] [(.int (1 : Int32))])) _
    refine XS.goto X3.here hx rfl (pc0 := 113) (pc' := 117) rfl (hb hby at_113) (by decide) (by decide) ?_
    show Steps p.tables e below (T3.setTop (mkF m 117 #[.val (.int i0), .val (.int i1), .val (.int (3 : Int32)), .val (.int (1 : Int32)), .val (.ref wJavaType_BIG_DECIMAL), .val (.int (0 : Int32)), .val (.int (1 : Int32)), .val (.ref wAttributeType_NUMBER), .val (.int (1 : Int32))] [(.int (1 : Int32))])) _
    exact retN X3 hx (t := .boolean) Bd.returns (by simp) (hb hby at_117) hr
  · exact ⟨rfl, N3, e3⟩
theorem own_r0 (l : Launch) (Z : State) (a0 : Array Value) (hw : ∀ d ∈ tables_1, d.before a0 Z = true) (ws : List Jvm.Cond) (wJavaType_STRING : Addr) (wAttributeType_NUMBER : Addr) (wJavaType_LONG : Addr) (wAttributeType_STRING : Addr) (wJavaType_INTEGER : Addr) (wJavaType_BIG_DECIMAL : Addr) (h0 : Heap) (n0 : Nat) (Z0 : n0 ≤ h0.size) (F : own_W Z h0 wJavaType_STRING wAttributeType_NUMBER wJavaType_LONG wAttributeType_STRING wJavaType_INTEGER wJavaType_BIG_DECIMAL) (i0 i1 : Int32) :
    MetFree l x (head1 (Jvm.Cond.code x code maxLocals ret :: ws) room_1) (fun a U => a = #[(.int i0), (.int i1)] ∧ Z.Warmed39 U.vm ∧ U.heap = h0) (fun _ _ _ _ _ => True) (fun _ U o U' => ∃ v L, o = .returned v ∧ own_Q (.int (1 : Int32)) h0 n0 v U'.heap L ∧ FrameEnd U o U' L room_1.cells room_1.slots) := by
  rcases own_range3 i0 with ht | ht | ht | ht <;> rcases own_range1 i1 with ha | ha
  · exact own_r0_t0a0 l Z a0 hw ws wJavaType_STRING wAttributeType_NUMBER wJavaType_LONG wAttributeType_STRING wJavaType_INTEGER wJavaType_BIG_DECIMAL h0 n0 Z0 F i0 i1 ht ha
  · exact own_r0_t0a1 l Z a0 hw ws wJavaType_STRING wAttributeType_NUMBER wJavaType_LONG wAttributeType_STRING wJavaType_INTEGER wJavaType_BIG_DECIMAL h0 n0 Z0 F i0 i1 ht ha
  · exact own_r0_t1a0 l Z a0 hw ws wJavaType_STRING wAttributeType_NUMBER wJavaType_LONG wAttributeType_STRING wJavaType_INTEGER wJavaType_BIG_DECIMAL h0 n0 Z0 F i0 i1 ht ha
  · exact own_r0_t1a1 l Z a0 hw ws wJavaType_STRING wAttributeType_NUMBER wJavaType_LONG wAttributeType_STRING wJavaType_INTEGER wJavaType_BIG_DECIMAL h0 n0 Z0 F i0 i1 ht ha
  · exact own_r0_t2a0 l Z a0 hw ws wJavaType_STRING wAttributeType_NUMBER wJavaType_LONG wAttributeType_STRING wJavaType_INTEGER wJavaType_BIG_DECIMAL h0 n0 Z0 F i0 i1 ht ha
  · exact own_r0_t2a1 l Z a0 hw ws wJavaType_STRING wAttributeType_NUMBER wJavaType_LONG wAttributeType_STRING wJavaType_INTEGER wJavaType_BIG_DECIMAL h0 n0 Z0 F i0 i1 ht ha
  · exact own_r0_t3a0 l Z a0 hw ws wJavaType_STRING wAttributeType_NUMBER wJavaType_LONG wAttributeType_STRING wJavaType_INTEGER wJavaType_BIG_DECIMAL h0 n0 Z0 F i0 i1 ht ha
  · exact own_r0_t3a1 l Z a0 hw ws wJavaType_STRING wAttributeType_NUMBER wJavaType_LONG wAttributeType_STRING wJavaType_INTEGER wJavaType_BIG_DECIMAL h0 n0 Z0 F i0 i1 ht ha
set_option maxRecDepth 65536 in
set_option maxHeartbeats 40000000 in
theorem own_comes {Post : Tables → Env → Array Value → State → Outcome → State → Prop} (hpost : ∀ tb e args s v u, (limb_1_1.after args s (.returned v) u = true ∧ limb_1_2.after args s (.returned v) u = true ∧ True) → FrameEnd s (.returned v) u (Jvm.fieldLocs frame_1_writes args s ++ Jvm.arrayLocs frame_1_arrays args s ++ Jvm.staticLocs frame_1_statics s) 0 0 → Post tb e args s (.returned v) u) :
    ArmFor flags0 classFile x code maxLocals ret World_1 tables_1 room_1 Calls_1 rest_1 Pre_1 Post := by
  intro l hfl _ _ p e ha hc hk s m args below hf hA hF happ hP
  obtain ⟨hcalls, hrest, hpre⟩ := hP
  obtain ⟨-, -, -, hnamed, -, -, -, hat⟩ := (Spec.applies_iff hf).mp happ
  obtain ⟨hg, hn⟩ := and_e (Cond.before_iff.mp (show (Jvm.Cond.and given_1 narrow_1).before args s = true from hpre))
  obtain ⟨gl1, gr1⟩ := and_e hg
  obtain ⟨gl2, gr2⟩ := and_e gr1
  obtain ⟨w0, w1, rfl⟩ : ∃ w0 w1 : Value, args = #[w0, w1] := by
    have hs : args.size = 2 := by simpa [Cond.value, given_1] using gl1
    obtain ⟨L⟩ := args
    match L, hs with
    | [w0, w1], _ => exact ⟨w0, w1, rfl⟩
  have hw := fun d (hd : d ∈ tables_1) => atoms_spec (ws := Jvm.Cond.code x code maxLocals ret :: tables_1) hat d (List.mem_cons_of_mem _ hd)
  obtain ⟨i0, ei0⟩ := is_v gl2
  obtain rfl : w0 = (.int i0) := Option.some.inj ei0
  obtain ⟨i1, ei1⟩ := is_v gr2
  obtain rfl : w1 = (.int i1) := Option.some.inj ei1
  obtain ⟨nl1, nr1⟩ := and_e hn
  obtain ⟨nl2, nr2⟩ := and_e nr1
  obtain ⟨nl3, nr3⟩ := and_e nr2
  obtain ⟨nl4, nr4⟩ := and_e nr3
  obtain ⟨nl5, nr5⟩ := and_e nr4
  obtain ⟨nl6, nr6⟩ := and_e nr5
  obtain ⟨nl7, nr7⟩ := and_e nr6
  obtain ⟨nl8, nr8⟩ := and_e nr7
  obtain ⟨nl9, nr9⟩ := and_e nr8
  obtain ⟨nl10, nr10⟩ := and_e nr9
  obtain ⟨nl11, nr11⟩ := and_e nr10
  obtain ⟨wJavaType_STRING, ev_wJavaType_STRING⟩ := exa_v nl1
  have S_wJavaType_STRING : Sta s s.heap "com/example/hesiod/hesiod/dynamodb/JavaType" "STRING" "Lcom/example/hesiod/hesiod/dynamodb/JavaType;" (.ref wJavaType_STRING) := Sta.start ev_wJavaType_STRING (Or.inr ⟨(hw _ (List.mem_of_getElem? (i := 1) rfl)), (hw _ (List.mem_of_getElem? (i := 2) rfl))⟩)
  have E_wJavaType_STRING : Exa s s.heap wJavaType_STRING "com/example/hesiod/hesiod/dynamodb/JavaType" := Exa.start ev_wJavaType_STRING nl1
  obtain ⟨wAttributeType_NUMBER, ev_wAttributeType_NUMBER⟩ := exa_v nl2
  have S_wAttributeType_NUMBER : Sta s s.heap "com/example/hesiod/hesiod/model/AttributeType" "NUMBER" "Lcom/example/hesiod/hesiod/model/AttributeType;" (.ref wAttributeType_NUMBER) := Sta.start ev_wAttributeType_NUMBER (Or.inr ⟨(hw _ (List.mem_of_getElem? (i := 4) rfl)), (hw _ (List.mem_of_getElem? (i := 5) rfl))⟩)
  have E_wAttributeType_NUMBER : Exa s s.heap wAttributeType_NUMBER "com/example/hesiod/hesiod/model/AttributeType" := Exa.start ev_wAttributeType_NUMBER nl2
  obtain ⟨wJavaType_LONG, ev_wJavaType_LONG⟩ := exa_v nl3
  have S_wJavaType_LONG : Sta s s.heap "com/example/hesiod/hesiod/dynamodb/JavaType" "LONG" "Lcom/example/hesiod/hesiod/dynamodb/JavaType;" (.ref wJavaType_LONG) := Sta.start ev_wJavaType_LONG (Or.inr ⟨(hw _ (List.mem_of_getElem? (i := 1) rfl)), (hw _ (List.mem_of_getElem? (i := 13) rfl))⟩)
  have E_wJavaType_LONG : Exa s s.heap wJavaType_LONG "com/example/hesiod/hesiod/dynamodb/JavaType" := Exa.start ev_wJavaType_LONG nl3
  obtain ⟨wAttributeType_STRING, ev_wAttributeType_STRING⟩ := exa_v nl6
  have S_wAttributeType_STRING : Sta s s.heap "com/example/hesiod/hesiod/model/AttributeType" "STRING" "Lcom/example/hesiod/hesiod/model/AttributeType;" (.ref wAttributeType_STRING) := Sta.start ev_wAttributeType_STRING (Or.inr ⟨(hw _ (List.mem_of_getElem? (i := 4) rfl)), (hw _ (List.mem_of_getElem? (i := 16) rfl))⟩)
  have E_wAttributeType_STRING : Exa s s.heap wAttributeType_STRING "com/example/hesiod/hesiod/model/AttributeType" := Exa.start ev_wAttributeType_STRING nl6
  obtain ⟨wJavaType_INTEGER, ev_wJavaType_INTEGER⟩ := exa_v nl7
  have S_wJavaType_INTEGER : Sta s s.heap "com/example/hesiod/hesiod/dynamodb/JavaType" "INTEGER" "Lcom/example/hesiod/hesiod/dynamodb/JavaType;" (.ref wJavaType_INTEGER) := Sta.start ev_wJavaType_INTEGER (Or.inr ⟨(hw _ (List.mem_of_getElem? (i := 1) rfl)), (hw _ (List.mem_of_getElem? (i := 18) rfl))⟩)
  have E_wJavaType_INTEGER : Exa s s.heap wJavaType_INTEGER "com/example/hesiod/hesiod/dynamodb/JavaType" := Exa.start ev_wJavaType_INTEGER nl7
  obtain ⟨wJavaType_BIG_DECIMAL, ev_wJavaType_BIG_DECIMAL⟩ := exa_v nl11
  have S_wJavaType_BIG_DECIMAL : Sta s s.heap "com/example/hesiod/hesiod/dynamodb/JavaType" "BIG_DECIMAL" "Lcom/example/hesiod/hesiod/dynamodb/JavaType;" (.ref wJavaType_BIG_DECIMAL) := Sta.start ev_wJavaType_BIG_DECIMAL (Or.inr ⟨(hw _ (List.mem_of_getElem? (i := 1) rfl)), (hw _ (List.mem_of_getElem? (i := 20) rfl))⟩)
  have E_wJavaType_BIG_DECIMAL : Exa s s.heap wJavaType_BIG_DECIMAL "com/example/hesiod/hesiod/dynamodb/JavaType" := Exa.start ev_wJavaType_BIG_DECIMAL nl11
  have F_wJavaType_LONG_ordinal : Fld s s.heap wJavaType_LONG "java/lang/Enum" "ordinal" "I" (.int (2 : Int32)) := Fld.start ((fld_at ev_wJavaType_LONG).symm.trans (own_eqI nl4 rfl))
  have F_wJavaType_STRING_ordinal : Fld s s.heap wJavaType_STRING "java/lang/Enum" "ordinal" "I" (.int (0 : Int32)) := Fld.start ((fld_at ev_wJavaType_STRING).symm.trans (own_eqI nl5 rfl))
  have F_wJavaType_INTEGER_ordinal : Fld s s.heap wJavaType_INTEGER "java/lang/Enum" "ordinal" "I" (.int (1 : Int32)) := Fld.start ((fld_at ev_wJavaType_INTEGER).symm.trans (own_eqI nl8 rfl))
  have F_wAttributeType_STRING_ordinal : Fld s s.heap wAttributeType_STRING "java/lang/Enum" "ordinal" "I" (.int (0 : Int32)) := Fld.start ((fld_at ev_wAttributeType_STRING).symm.trans (own_eqI nl9 rfl))
  have F_wAttributeType_NUMBER_ordinal : Fld s s.heap wAttributeType_NUMBER "java/lang/Enum" "ordinal" "I" (.int (1 : Int32)) := Fld.start ((fld_at ev_wAttributeType_NUMBER).symm.trans (own_eqI nl10 rfl))
  have F_wJavaType_BIG_DECIMAL_ordinal : Fld s s.heap wJavaType_BIG_DECIMAL "java/lang/Enum" "ordinal" "I" (.int (3 : Int32)) := Fld.start ((fld_at ev_wJavaType_BIG_DECIMAL).symm.trans (own_eqI nr11 rfl))
  have ne_wJavaType_STRING_wJavaType_LONG : wJavaType_STRING ≠ wJavaType_LONG := own_ne F_wJavaType_STRING_ordinal F_wJavaType_LONG_ordinal (by simp)
  have ne_wJavaType_STRING_wJavaType_INTEGER : wJavaType_STRING ≠ wJavaType_INTEGER := own_ne F_wJavaType_STRING_ordinal F_wJavaType_INTEGER_ordinal (by simp)
  have ne_wJavaType_STRING_wJavaType_BIG_DECIMAL : wJavaType_STRING ≠ wJavaType_BIG_DECIMAL := own_ne F_wJavaType_STRING_ordinal F_wJavaType_BIG_DECIMAL_ordinal (by simp)
  have ne_wAttributeType_NUMBER_wAttributeType_STRING : wAttributeType_NUMBER ≠ wAttributeType_STRING := own_ne F_wAttributeType_NUMBER_ordinal F_wAttributeType_STRING_ordinal (by simp)
  have ne_wJavaType_LONG_wJavaType_INTEGER : wJavaType_LONG ≠ wJavaType_INTEGER := own_ne F_wJavaType_LONG_ordinal F_wJavaType_INTEGER_ordinal (by simp)
  have ne_wJavaType_LONG_wJavaType_BIG_DECIMAL : wJavaType_LONG ≠ wJavaType_BIG_DECIMAL := own_ne F_wJavaType_LONG_ordinal F_wJavaType_BIG_DECIMAL_ordinal (by simp)
  have ne_wJavaType_INTEGER_wJavaType_BIG_DECIMAL : wJavaType_INTEGER ≠ wJavaType_BIG_DECIMAL := own_ne F_wJavaType_INTEGER_ordinal F_wJavaType_BIG_DECIMAL_ordinal (by simp)
  have F : own_W s s.heap wJavaType_STRING wAttributeType_NUMBER wJavaType_LONG wAttributeType_STRING wJavaType_INTEGER wJavaType_BIG_DECIMAL := ⟨S_wJavaType_STRING, E_wJavaType_STRING, S_wAttributeType_NUMBER, E_wAttributeType_NUMBER, S_wJavaType_LONG, E_wJavaType_LONG, S_wAttributeType_STRING, E_wAttributeType_STRING, S_wJavaType_INTEGER, E_wJavaType_INTEGER, S_wJavaType_BIG_DECIMAL, E_wJavaType_BIG_DECIMAL, F_wJavaType_LONG_ordinal, F_wJavaType_STRING_ordinal, F_wJavaType_INTEGER_ordinal, F_wAttributeType_STRING_ordinal, F_wAttributeType_NUMBER_ordinal, F_wJavaType_BIG_DECIMAL_ordinal, ne_wJavaType_STRING_wJavaType_LONG, ne_wJavaType_STRING_wJavaType_INTEGER, ne_wJavaType_STRING_wJavaType_BIG_DECIMAL, ne_wAttributeType_NUMBER_wAttributeType_STRING, ne_wJavaType_LONG_wJavaType_INTEGER, ne_wJavaType_LONG_wJavaType_BIG_DECIMAL, ne_wJavaType_INTEGER_wJavaType_BIG_DECIMAL⟩
  obtain ⟨n, o, h1, h2, h3, _, L, rfl, ⟨rfl, N, -⟩, hq⟩ := own_r0 l s _ hw tables_1 wJavaType_STRING wAttributeType_NUMBER wJavaType_LONG wAttributeType_STRING wJavaType_INTEGER wJavaType_BIG_DECIMAL s.heap s.heap.size (Nat.le_refl _) F i0 i1 p e ha hc hk s m _ below hf ((Spec.applies_iff_loose hf).mp happ).1 ⟨rfl, State.Warmed39.refl s, rfl⟩ trivial
  refine ⟨n, _, h1, h2, h3, hpost _ _ _ _ _ _ ⟨Cond.after_iff.mpr rfl, Cond.after_iff.mpr (eq_i res_at (Term.int_eval (1)) rfl), trivial⟩ ⟨hq.1, hq.2.1, (hq.2.2.sift fun y hy => Or.inr (N y hy)).mono (by decide) (by decide)⟩⟩
theorem main_1_1 : Claimed_1_1 := own_comes fun _ _ _ _ _ _ h hF => ⟨h.1, hF⟩
theorem main_1_2 : Claimed_1_2 := own_comes fun _ _ _ _ _ _ h hF => ⟨h.2.1, hF⟩
end Jvm.Pilot.@@N@@
namespace Jvm.Pilot.@@N@@
open Jvm Jvm.ClassFile Sem Op Lib Jvm.Free Jvm.Stand Jvm.Pilot.@@N@@.Jvm.D
/-! MADE BY PROGRAM (witnessworld.py) out of the Statement's table words and the real class files: 11 classes; the members and pool entries that the words name. The judged class is class 1, her method 1. -/
namespace start1
open Jvm.ClassFile
def u (s : String) : CpInfo := .utf8 (stringToUtf16 s)
/-- a pool by its gaps: so many unusable entries, then the entry; so many at the end -/
def gap : Nat → List CpInfo → List CpInfo
  | 0, r => r
  | n + 1, r => .unusable :: gap n r
def poolList (es : List (Nat × CpInfo)) (last : Nat) : List CpInfo := es.foldr (fun e r => gap e.1 (e.2 :: r)) (gap last [])
def pool (es : List (Nat × CpInfo)) (last : Nat) : Array CpInfo := ⟨poolList es last⟩
def fileOf (pool : Array CpInfo) (this : Nat) (attrs : Array Attribute := #[]) (ms : Array MethodInfo := #[]) (fl : Nat := 33) (sup : Nat := 0) (ifs : Array Nat := #[]) (fds : Array FieldInfo := #[]) : ClassFile where
  minorVersion := 0
  majorVersion := 65
  constantPool := pool
  accessFlags := fl
  thisClass := this
  superClass := sup
  interfaces := ifs
  fields := fds
  methods := ms
  attributes := attrs
def plain (name : String) (sup : Option ClassId) : Class where
  name := name
  kind := .ordinary
  loader := none
  accessFlags := 33
  super := sup
  interfaces := #[]
  cf := none
  fields := #[]
  methods := #[]
  instanceTypes := #[]
  staticTypes := #[]
  resolved := #[]
  callSites := []
  init := .initialized
  statics := none
  mirror := none

def pool0 : Array CpInfo := pool [(5, u "<init>"), (0, u "()V"), (1, .class_ 10), (1, u "java/lang/Object")] 113

def k0m0 : Method := { name := "<init>", desc := "()V", sig := { parameters := [], returnType := none }, accessFlags := 1, code := none }
/-- java/lang/Object -/
def k0 : Class := { plain "java/lang/Object" none with
  accessFlags := 33
  interfaces := #[]
  cf := some (fileOf pool0 8 #[] #[{ accessFlags := 1, nameIndex := 5, descriptorIndex := 6, attributes := #[] }] 33 0 #[] #[])
  fields := #[]
  methods := #[k0m0]
  instanceTypes := #[]
  staticTypes := #[]
  resolved := Array.replicate 124 none
  statics := none }

def pool1 : Array CpInfo := pool [(2, .class_ 4), (1, u "java/lang/Object"), (0, u "<init>"), (0, u "()V"), (0, .fieldref 8 9), (0, .class_ 10), (0, .nameAndType 11 12), (0, u "com/example/hesiod/hesiod/dynamodb/JavaType"), (0, u "STRING"), (0, u "Lcom/example/hesiod/hesiod/dynamodb/JavaType;"), (0, .fieldref 8 14), (0, .nameAndType 15 12), (0, u "INTEGER"), (0, .fieldref 8 17), (0, .nameAndType 18 12), (0, u "LONG"), (0, .fieldref 8 20), (0, .nameAndType 21 12), (0, u "BIG_DECIMAL"), (0, .fieldref 23 24), (0, .class_ 25), (0, .nameAndType 11 26), (0, u "com/example/hesiod/hesiod/model/AttributeType"), (0, u "Lcom/example/hesiod/hesiod/model/AttributeType;"), (0, .fieldref 23 28), (0, .nameAndType 29 26), (0, u "NUMBER"), (0, .methodref 8 31), (0, .nameAndType 32 33), (0, u "holds"), (0, u "(Lcom/example/hesiod/hesiod/model/AttributeType;)Z"), (0, .class_ 35), (0, u "com/example/hesiod/hesiod/dynamodb/JavaTypeHoldsPinLaw"), (2, u "law"), (0, u "(II)Z")] 3

def k1m0 : Method := { name := "<init>", desc := "()V", sig := { parameters := [], returnType := none }, accessFlags := 1, code := none }
def k1c1 : Code := { maxStack := 2, maxLocals := 9, code := code, exceptionTable := #[], attributes := #[] }
def k1m1 : Method := { name := "law", desc := "(II)Z", sig := { parameters := [.int, .int], returnType := some .boolean }, accessFlags := 9, code := some k1c1 }
/-- com/example/hesiod/hesiod/dynamodb/JavaTypeHoldsPinLaw -/
def k1 : Class := { plain "com/example/hesiod/hesiod/dynamodb/JavaTypeHoldsPinLaw" (some 0) with
  accessFlags := 49
  interfaces := #[]
  cf := some (fileOf pool1 34 #[] #[{ accessFlags := 1, nameIndex := 5, descriptorIndex := 6, attributes := #[] }, { accessFlags := 9, nameIndex := 38, descriptorIndex := 39, attributes := #[] }] 49 2 #[] #[])
  fields := #[]
  methods := #[k1m0, k1m1]
  instanceTypes := #[]
  staticTypes := #[]
  resolved := Array.replicate 43 none
  statics := none }

def pool2 : Array CpInfo := pool [(1, .class_ 2), (0, u "java/lang/constant/Constable"), (0, .class_ 4), (0, u "java/lang/Object")] 6

/-- java/lang/constant/Constable -/
def k2 : Class := { plain "java/lang/constant/Constable" (some 0) with
  accessFlags := 1537
  interfaces := #[]
  cf := some (fileOf pool2 1 #[] #[] 1537 3 #[] #[])
  fields := #[]
  methods := #[]
  instanceTypes := #[]
  staticTypes := #[]
  resolved := Array.replicate 11 none
  statics := none }

def pool3 : Array CpInfo := pool [(1, .class_ 2), (0, u "java/lang/Comparable"), (0, .class_ 4), (0, u "java/lang/Object")] 7

/-- java/lang/Comparable -/
def k3 : Class := { plain "java/lang/Comparable" (some 0) with
  accessFlags := 1537
  interfaces := #[]
  cf := some (fileOf pool3 1 #[] #[] 1537 3 #[] #[])
  fields := #[]
  methods := #[]
  instanceTypes := #[]
  staticTypes := #[]
  resolved := Array.replicate 12 none
  statics := none }

def pool4 : Array CpInfo := pool [(1, .class_ 2), (0, u "java/io/Serializable"), (0, .class_ 4), (0, u "java/lang/Object")] 2

/-- java/io/Serializable -/
def k4 : Class := { plain "java/io/Serializable" (some 0) with
  accessFlags := 1537
  interfaces := #[]
  cf := some (fileOf pool4 1 #[] #[] 1537 3 #[] #[])
  fields := #[]
  methods := #[]
  instanceTypes := #[]
  staticTypes := #[]
  resolved := Array.replicate 7 none
  statics := none }

def pool5 : Array CpInfo := pool [(2, .class_ 4), (1, u "java/lang/Enum"), (0, u "name"), (0, u "Ljava/lang/String;"), (2, u "ordinal"), (0, u "I"), (1, .class_ 14), (1, u "java/lang/Object"), (4, u "hash"), (86, .class_ 108), (1, u "java/lang/Enum$EnumDesc"), (2, .class_ 112), (0, u "java/lang/constant/Constable"), (0, .class_ 114), (0, u "java/lang/Comparable"), (0, .class_ 116), (0, u "java/io/Serializable")] 87

/-- java/lang/Enum -/
def k5 : Class := { plain "java/lang/Enum" (some 0) with
  accessFlags := 1057
  interfaces := #[2, 3, 4]
  cf := some (fileOf pool5 2 #[.nestMembers #[106]] #[] 1057 12 #[111, 113, 115] #[{ accessFlags := 18, nameIndex := 5, descriptorIndex := 6, attributes := #[] }, { accessFlags := 18, nameIndex := 9, descriptorIndex := 10, attributes := #[] }, { accessFlags := 2, nameIndex := 19, descriptorIndex := 10, attributes := #[] }])
  fields := #[{ name := "name", type := (.object "java/lang/String"), accessFlags := 18, slot := 0, constantValue := 0 }, { name := "ordinal", type := .int, accessFlags := 18, slot := 1, constantValue := 0 }, { name := "hash", type := .int, accessFlags := 2, slot := 2, constantValue := 0 }]
  methods := #[]
  instanceTypes := #[(.object "java/lang/String"), .int, .int]
  staticTypes := #[]
  resolved := Array.replicate 204 none
  statics := none }

def pool6 : Array CpInfo := pool [(1, .class_ 2), (0, u "com/example/hesiod/hesiod/dynamodb/JavaType"), (0, .fieldref 1 4), (0, .nameAndType 5 6), (0, u "STRING"), (0, u "Lcom/example/hesiod/hesiod/dynamodb/JavaType;"), (2, u "INTEGER"), (2, u "LONG"), (2, u "BIG_DECIMAL"), (2, u "$VALUES"), (0, u "[Lcom/example/hesiod/hesiod/dynamodb/JavaType;"), (6, .class_ 28), (1, u "java/lang/Enum"), (8, u "type"), (0, u "Ljava/lang/Class;"), (2, u "primitive"), (2, u "fromText"), (0, u "Ljava/util/function/Function;"), (2, u "TYPES"), (0, u "Ljava/util/List;"), (25, .fieldref 76 77), (0, .class_ 78), (0, .nameAndType 79 80), (0, u "com/example/hesiod/hesiod/model/AttributeType"), (0, u "NUMBER"), (0, u "Lcom/example/hesiod/hesiod/model/AttributeType;"), (133, u "holds"), (0, u "(Lcom/example/hesiod/hesiod/model/AttributeType;)Z")] 136

def k6c0 : Code := { maxStack := 2, maxLocals := 2, code := prog_3_method_5_code, exceptionTable := #[], attributes := #[] }
def k6m0 : Method := { name := "holds", desc := "(Lcom/example/hesiod/hesiod/model/AttributeType;)Z", sig := { parameters := [(.object "com/example/hesiod/hesiod/model/AttributeType")], returnType := some .boolean }, accessFlags := 0, code := some k6c0 }
/-- com/example/hesiod/hesiod/dynamodb/JavaType -/
def k6 : Class := { plain "com/example/hesiod/hesiod/dynamodb/JavaType" (some 5) with
  accessFlags := 16432
  interfaces := #[]
  cf := some (fileOf pool6 1 #[] #[{ accessFlags := 0, nameIndex := 214, descriptorIndex := 215, attributes := #[] }] 16432 26 #[] #[{ accessFlags := 16409, nameIndex := 5, descriptorIndex := 6, attributes := #[] }, { accessFlags := 16409, nameIndex := 9, descriptorIndex := 6, attributes := #[] }, { accessFlags := 16409, nameIndex := 12, descriptorIndex := 6, attributes := #[] }, { accessFlags := 16409, nameIndex := 15, descriptorIndex := 6, attributes := #[] }, { accessFlags := 26, nameIndex := 48, descriptorIndex := 49, attributes := #[] }, { accessFlags := 18, nameIndex := 37, descriptorIndex := 38, attributes := #[] }, { accessFlags := 18, nameIndex := 41, descriptorIndex := 38, attributes := #[] }, { accessFlags := 18, nameIndex := 44, descriptorIndex := 45, attributes := #[] }, { accessFlags := 4122, nameIndex := 18, descriptorIndex := 19, attributes := #[] }])
  fields := #[{ name := "STRING", type := (.object "com/example/hesiod/hesiod/dynamodb/JavaType"), accessFlags := 16409, slot := 0, constantValue := 0 }, { name := "INTEGER", type := (.object "com/example/hesiod/hesiod/dynamodb/JavaType"), accessFlags := 16409, slot := 1, constantValue := 0 }, { name := "LONG", type := (.object "com/example/hesiod/hesiod/dynamodb/JavaType"), accessFlags := 16409, slot := 2, constantValue := 0 }, { name := "BIG_DECIMAL", type := (.object "com/example/hesiod/hesiod/dynamodb/JavaType"), accessFlags := 16409, slot := 3, constantValue := 0 }, { name := "TYPES", type := (.object "java/util/List"), accessFlags := 26, slot := 4, constantValue := 0 }, { name := "type", type := (.object "java/lang/Class"), accessFlags := 18, slot := 3, constantValue := 0 }, { name := "primitive", type := (.object "java/lang/Class"), accessFlags := 18, slot := 4, constantValue := 0 }, { name := "fromText", type := (.object "java/util/function/Function"), accessFlags := 18, slot := 5, constantValue := 0 }, { name := "$VALUES", type := (.array (.object "com/example/hesiod/hesiod/dynamodb/JavaType")), accessFlags := 4122, slot := 5, constantValue := 0 }]
  methods := #[k6m0]
  instanceTypes := #[(.object "java/lang/String"), .int, .int, (.object "java/lang/Class"), (.object "java/lang/Class"), (.object "java/util/function/Function")]
  staticTypes := #[(.object "com/example/hesiod/hesiod/dynamodb/JavaType"), (.object "com/example/hesiod/hesiod/dynamodb/JavaType"), (.object "com/example/hesiod/hesiod/dynamodb/JavaType"), (.object "com/example/hesiod/hesiod/dynamodb/JavaType"), (.object "java/util/List"), (.array (.object "com/example/hesiod/hesiod/dynamodb/JavaType"))]
  resolved := Array.replicate 352 none
  statics := some 0 }

def pool7 : Array CpInfo := pool [(1, .class_ 2), (0, u "com/example/hesiod/hesiod/model/AttributeType"), (2, u "STRING"), (0, u "Lcom/example/hesiod/hesiod/model/AttributeType;"), (2, u "NUMBER"), (2, u "$VALUES"), (0, u "[Lcom/example/hesiod/hesiod/model/AttributeType;"), (6, .class_ 22), (1, u "java/lang/Enum"), (8, u "modelName"), (0, u "Ljava/lang/String;"), (91, u "MAX_DIGITS"), (0, u "I"), (2, u "MIN_EXPONENT"), (1, u "MAX_EXPONENT")] 51

/-- com/example/hesiod/hesiod/model/AttributeType -/
def k7 : Class := { plain "com/example/hesiod/hesiod/model/AttributeType" (some 5) with
  accessFlags := 16433
  interfaces := #[]
  cf := some (fileOf pool7 1 #[] #[] 16433 20 #[] #[{ accessFlags := 16409, nameIndex := 5, descriptorIndex := 6, attributes := #[] }, { accessFlags := 16409, nameIndex := 9, descriptorIndex := 6, attributes := #[] }, { accessFlags := 26, nameIndex := 124, descriptorIndex := 125, attributes := #[] }, { accessFlags := 26, nameIndex := 128, descriptorIndex := 125, attributes := #[] }, { accessFlags := 26, nameIndex := 130, descriptorIndex := 125, attributes := #[] }, { accessFlags := 18, nameIndex := 31, descriptorIndex := 32, attributes := #[] }, { accessFlags := 4122, nameIndex := 12, descriptorIndex := 13, attributes := #[] }])
  fields := #[{ name := "STRING", type := (.object "com/example/hesiod/hesiod/model/AttributeType"), accessFlags := 16409, slot := 0, constantValue := 0 }, { name := "NUMBER", type := (.object "com/example/hesiod/hesiod/model/AttributeType"), accessFlags := 16409, slot := 1, constantValue := 0 }, { name := "MAX_DIGITS", type := .int, accessFlags := 26, slot := 2, constantValue := 0 }, { name := "MIN_EXPONENT", type := .int, accessFlags := 26, slot := 3, constantValue := 0 }, { name := "MAX_EXPONENT", type := .int, accessFlags := 26, slot := 4, constantValue := 0 }, { name := "modelName", type := (.object "java/lang/String"), accessFlags := 18, slot := 3, constantValue := 0 }, { name := "$VALUES", type := (.array (.object "com/example/hesiod/hesiod/model/AttributeType")), accessFlags := 4122, slot := 5, constantValue := 0 }]
  methods := #[]
  instanceTypes := #[(.object "java/lang/String"), .int, .int, (.object "java/lang/String")]
  staticTypes := #[(.object "com/example/hesiod/hesiod/model/AttributeType"), (.object "com/example/hesiod/hesiod/model/AttributeType"), .int, .int, .int, (.array (.object "com/example/hesiod/hesiod/model/AttributeType"))]
  resolved := Array.replicate 182 none
  statics := some 1 }

def pool8 : Array CpInfo := pool [(1, u "java/lang/Cloneable"), (0, .class_ 1), (0, u "java/lang/Object"), (0, .class_ 3)] 3

/-- java/lang/Cloneable -/
def k8 : Class := { plain "java/lang/Cloneable" (some 0) with
  accessFlags := 1537
  interfaces := #[]
  cf := some (fileOf pool8 2 #[] #[] 1537 4 #[] #[])
  fields := #[]
  methods := #[]
  instanceTypes := #[]
  staticTypes := #[]
  resolved := Array.replicate 8 none
  statics := none }

/-- the primitive byte -/
def k9 : Class := { plain "byte" none with kind := .primitive 'B', accessFlags := 0x411 }
/-- [B -/
def k10 : Class := { plain "[B" (some 0) with kind := .array 9 .byte, interfaces := #[8, 4], accessFlags := 1041 }

def heap : Heap := #[{ cls := 6, slots := #[.ref 2, .ref 3, .ref 4, .ref 5, .null, .null], vm := .statics 6 },
  { cls := 7, slots := #[.ref 6, .ref 7, .int 0, .int 0, .int 0, .null], vm := .statics 7 },
  { cls := 6, slots := #[.null, .int 0, .int 0, .null, .null, .null], vm := .none },
  { cls := 6, slots := #[.null, .int 1, .int 0, .null, .null, .null], vm := .none },
  { cls := 6, slots := #[.null, .int 2, .int 0, .null, .null, .null], vm := .none },
  { cls := 6, slots := #[.null, .int 3, .int 0, .null, .null, .null], vm := .none },
  { cls := 7, slots := #[.null, .int 0, .int 0, .null], vm := .none },
  { cls := 7, slots := #[.null, .int 1, .int 0, .null], vm := .none }]
def classes : Array Class := #[k0, k1, k2, k3, k4, k5, k6, k7, k8, k9, k10]
def interned : List (Array UInt16 × Addr) := []
def slotsUsed : Nat := 44
def theMethod : MethodId := ⟨1, 1⟩
def args0 : Array Value := #[.int 3, .int 4]
def aboutOver (below : List Frame) : State where
  vm := { classes := classes, interned := interned.toArray }
  heap := heap
  slotsUsed := slotsUsed
  threads := #[{ frames := .invoking theMethod args0 :: below }]
def below0 : List Frame := [.native { method := ⟨0, 0⟩, args := #[] }]
def about1 : State := aboutOver below0
def p0 : Program := .bare "" "" ""
def e0 : Env := launch0.env 0 0 0
theorem w_frames : about1.frames = Frame.invoking theMethod args0 :: below0 := rfl
set_option maxRecDepth 65536 in
theorem w_args : argsFit about1.vm theMethod args0 = true := by decide +kernel
set_option maxRecDepth 65536 in
theorem w_heap : heapFits about1 = true := by decide +kernel
set_option maxRecDepth 65536 in
theorem w_runnable : about1.curStatus? = some .runnable := by decide +kernel
set_option maxRecDepth 65536 in
theorem w_alone : about1.alone = true := by decide +kernel
set_option maxRecDepth 65536 in
theorem w_named : about1.methodNamed? x = some theMethod := by decide +kernel
set_option maxRecDepth 65536 in
theorem w_hears : about1.hears theMethod below0 = true := by decide +kernel
set_option maxRecDepth 65536 in
theorem w_ripe : about1.ripe theMethod args0 below0 = true := by decide +kernel
theorem w_running : about1.status = .running := rfl
set_option maxRecDepth 65536 in
theorem w_room : about1.hasRoom e0.platform room_1 = true :=
  launch0.hasRoom_least _ room_1 (by decide +kernel) (by decide +kernel) (by decide +kernel) (by decide +kernel) (by decide +kernel) (by decide +kernel)
theorem allAtoms_all (ts : List Jvm.Cond) (a : Array Jvm.Value) (st : Jvm.State) : (allAtoms ts).before a st = ts.all (fun c => c.before a st) := by
  induction ts with
  | nil => rfl
  | cons c t ih =>
    show (Jvm.Cond.and c (allAtoms t)).before a st = _
    rw [Jvm.Cond.before_and, ih, List.all_cons]
def words1 : List Jvm.Cond := Jvm.Cond.code x code maxLocals ret :: tables_1
/-- a 'code' word, met by the world's own term for the bytes: nothing is compared byte by byte -/
theorem code_word {y : MethodName} {bytes : ByteArray} {mx : Nat} {rt : Option FieldType} {a : Array Value} {s : State} {m : MethodId} {meth : Method} {c : Code} (h1 : s.methodNamed? y = some m) (h2 : s.vm.method? m = some meth) (h3 : meth.code = some c) (h4 : c.code = bytes)
    (h5 : (c.maxLocals == mx && c.exceptionTable.isEmpty && decide (c.maxStack ≤ mostOperands) && decide (meth.sig.returnType = rt) && !meth.locks && decide (parseMethodDescriptor y.desc = some meth.sig)) = true) : (Jvm.Cond.code y bytes mx rt).before a s = true := by
  simp only [Bool.and_eq_true, beq_iff_eq, Bool.not_eq_true', decide_eq_true_eq] at h5
  obtain ⟨⟨⟨⟨⟨g1, g2⟩, g3⟩, g4⟩, g5⟩, g6⟩ := h5
  simp [Cond.before, Cond.holds, Cond.value, h1, h2, h3, h4, g1, g2, g3, g4, g5, g6]
def isCode : Jvm.Cond → Bool
  | .code _ _ _ _ => true
  | _ => false
theorem all_split {L : List Jvm.Cond} {P : Jvm.Cond → Bool} (h1 : L.all (fun c => isCode c || P c) = true) (h2 : ∀ c ∈ L.filter isCode, P c = true) : L.all P = true := by
  refine List.all_eq_true.mpr fun c hc => ?_
  have h := List.all_eq_true.mp h1 c hc
  rcases Bool.eq_false_or_eq_true (isCode c) with hi | hi
  · exact h2 c (List.mem_filter.mpr ⟨hc, hi⟩)
  · simpa [hi] using h
set_option maxRecDepth 65536 in
theorem w_c0 : (Jvm.Cond.code x code maxLocals ret).before args0 about1 = true := code_word (m := ⟨1, 1⟩) (meth := k1m1) (c := k1c1) (by decide +kernel) rfl rfl rfl (by decide +kernel)
set_option maxRecDepth 65536 in
theorem w_c1 : (Jvm.Cond.code ({ cls := "com/example/hesiod/hesiod/dynamodb/JavaType", name := "holds", desc := "(Lcom/example/hesiod/hesiod/model/AttributeType;)Z" } : Jvm.MethodName) prog_3_method_5_code (2 : Nat) (Option.some Jvm.ClassFile.FieldType.boolean)).before args0 about1 = true := code_word (m := ⟨6, 0⟩) (meth := k6m0) (c := k6c0) (by decide +kernel) rfl rfl rfl (by decide +kernel)
def codes1 : List Jvm.Cond := [Jvm.Cond.code x code maxLocals ret, Jvm.Cond.code ({ cls := "com/example/hesiod/hesiod/dynamodb/JavaType", name := "holds", desc := "(Lcom/example/hesiod/hesiod/model/AttributeType;)Z" } : Jvm.MethodName) prog_3_method_5_code (2 : Nat) (Option.some Jvm.ClassFile.FieldType.boolean)]
set_option maxRecDepth 65536 in
theorem codes_eq : words1.filter isCode = codes1 := rfl
theorem w_codes : ∀ c ∈ words1.filter isCode, c.before args0 about1 = true := by
  rw [codes_eq]
  intro c hc
  simp only [codes1, List.mem_cons, List.not_mem_nil, or_false] at hc
  rcases hc with rfl | rfl
  · exact w_c0
  · exact w_c1
set_option maxRecDepth 65536 in
theorem w_t1 : words1.all (fun c => isCode c || c.before args0 about1) = true := by decide +kernel
theorem w_tables : (allAtoms (Jvm.Cond.code x code maxLocals ret :: tables_1)).before args0 about1 = true := by
  rw [allAtoms_all]
  show words1.all (fun c => c.before args0 about1) = true
  refine all_split ?_ w_codes
  rw [w_t1]
set_option maxRecDepth 65536 in
theorem w_case : (Jvm.Cond.and given_1 narrow_1).before args0 about1 = true := by decide +kernel
theorem w_applies : (headSpec (Jvm.Cond.code x code maxLocals ret :: tables_1) room_1).applies x e0.platform about1 = true :=
  (Spec.applies_iff w_frames).mpr ⟨w_running, w_runnable, w_alone, w_named, w_hears, w_ripe, w_room, w_tables⟩
theorem atStart : AtStart classFile x code maxLocals ret World_1 tables_1 room_1 Calls_1 rest_1 Pre_1 launch0 p0 e0 about1 theMethod args0 below0 :=
  ⟨lists_1, trivial, launch0.admits_env _ _ _, launch0.least_env, fairChoices_fair.cas, fairChoices_fair.clock, w_frames, w_args, w_heap, w_applies, trivial, trivial, w_case⟩
end start1
theorem witness_1 : WitnessClaimed_1 := ⟨start1.p0, start1.e0, start1.about1, start1.theMethod, start1.args0, start1.below0, start1.atStart⟩
end Jvm.Pilot.@@N@@
