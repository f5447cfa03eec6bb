import JvmDerived
import JvmDerived.Pilot.@@N@@Statement
import JvmDerived.Pilot.@@N@@Code
set_option linter.unusedVariables false
set_option linter.unusedSimpArgs false
namespace Jvm.RoadKit
open Sem ClassFile Op Lib Jvm.Stand Jvm.Free Jvm.LawKit
section New
variable {p : Program} {l : Launch} {e : Env} {R : Room} {s : State} {m : MethodId} {args : Array Value} {below : List Frame} {meth : Method} {c : Code} {T : State} {locs : List Loc} {cells slots : Nat}
theorem retI (X : Stand p l e R s m args below meth c T locs cells slots) (hx : p.tables.exec = Jvm.exec) {pc : Nat} {Ls : Array Slot} {z : Int32} {rest : List Value} (hret : meth.sig.returnType = some .int) (hd : decode c.code pc = .ok (.ireturn, 1)) {fs : List Frame}
    (hl : ∀ (f : JFrame) (acts : List Action), f.method = m → f.locked = none → f.entered = [] → (doReturn e (T.setTop f) acts (some (.int z))).1 = T.setFrames fs) : Steps p.tables e below (T.setTop (mkF m pc Ls (.int z :: rest))) (T.setFrames fs) := by
  have hm' : T.vm.method? m = some meth := X.method'
  have hn : narrow .int (.int z) = .int z := rfl
  show Steps p.tables e below (T.setTop { method := m, pc := pc, locals := Ls, stack := _ :: rest, locked := none }) _
  jvm_step X.here [X.here.top, hx, hd, hm', hret, hn]
  first | (intro acts; rw [hl _ acts rfl rfl rfl]) | rw [hl _ _ rfl rfl rfl]
  exact Steps.refl _
end New
end Jvm.RoadKit
namespace Jvm.Pilot.@@N@@
open Jvm Jvm.ClassFile Sem Op Lib Jvm.Free Jvm.Stand Jvm.LawKit Jvm.RoadKit Bundle Jvm.Pilot.@@N@@.Jvm.D
/-! the case's words as plain facts -/
theorem own_eqI {args : Array Value} {first s : State} {o : Option Outcome} {idx : List Nat} {a b : Term} {z : Int32} (h : (Jvm.Cond.eq a b).value args first o s idx = some true) (hb : b.eval args first o idx s = some (.int z)) : a.eval args first o idx s = some (.int z) := by
  cases ha : a.eval args first o idx s with
  | none => simp [Cond.value, ha] at h
  | some x => cases x <;> simp [Cond.value, ha, hb] at h ⊢; exact h
theorem own_eqR {args : Array Value} {first s : State} {o : Option Outcome} {idx : List Nat} {a b : Term} {z : Addr} (h : (Jvm.Cond.eq a b).value args first o s idx = some true) (hb : b.eval args first o idx s = some (.ref z)) : a.eval args first o idx s = some (.ref z) := by
  cases ha : a.eval args first o idx s with
  | none => simp [Cond.value, ha] at h
  | some x => cases x <;> simp [Cond.value, ha, hb] at h ⊢; exact h
theorem own_ne {Z : State} {h : Heap} {a b : Addr} {C n d : String} {v w : Value} (F : Fld Z h a C n d v) (G : Fld Z h b C n d w) (hne : v ≠ w) : a ≠ b := fun e => by
  subst e
  obtain ⟨c1, cf1, k1, i1, f1, a1, a2, -, -, -, -, a7⟩ := F
  obtain ⟨c2, cf2, k2, i2, f2, b1, b2, -, -, -, -, b7⟩ := G
  cases a1.symm.trans b1
  cases a2.symm.trans b2
  exact hne (Option.some.inj (a7.symm.trans b7))
theorem own_len {args : Array Value} {s : State} {t : Term} {z : Int32} {x : Addr} {cl : Cell} {ty : FieldType} (h : (Term.length t).eval args s none [] s = some (.int z)) (ht : t.eval args s none [] s = some (.ref x)) (A : Arr s s.heap x cl ty) : cl.slots.size = z.toNatClampNeg := by
  have ha := A.fin (Vm.Alike.refl _)
  have h2 : cl.slots.size < 2 ^ 31 ∧ cl.slots.size.toInt32 = z := by simpa [Term.eval, ht, ha] using h
  rw [← h2.2]
  have := len_toInt h2.1
  unfold Int32.toNatClampNeg
  omega
theorem own_elem {args : Array Value} {s : State} {t : Term} {j : Int32} {x : Addr} {cl : Cell} {ty : FieldType} {v : Value} (h : (Term.elem t (.int j)).eval args s none [] s = some v) (ht : t.eval args s none [] s = some (.ref x)) (A : Arr s s.heap x cl ty) : cl.slots[j.toNatClampNeg]? = some v := by
  have ha := A.fin (Vm.Alike.refl _)
  have h2 : ¬ j < 0 ∧ cl.slots[j.toNatClampNeg]? = some v := by simpa [Term.eval, ht, ha] using h
  exact h2.2
def own_W (Z : State) (h : Heap) (r0 : Addr) (r1 : Addr) (r2 : Addr) (r3 : Addr) (r4 : Addr) (cl_r4 : Cell) : Prop := (Sta Z h "dragoman/Operator" "ADD" "Ldragoman/Operator;" (.ref r0)) ∧ (Exa Z h r0 "dragoman/Operator") ∧ (Sta Z h "dragoman/Operator" "SUBTRACT" "Ldragoman/Operator;" (.ref r1)) ∧ (Exa Z h r1 "dragoman/Operator") ∧ (Sta Z h "dragoman/Operator" "MULTIPLY" "Ldragoman/Operator;" (.ref r2)) ∧ (Exa Z h r2 "dragoman/Operator") ∧ (Sta Z h "dragoman/Operator" "DIVIDE" "Ldragoman/Operator;" (.ref r3)) ∧ (Exa Z h r3 "dragoman/Operator") ∧ (Sta Z h "dragoman/Operator" "ALL" "[Ldragoman/Operator;" (.ref r4)) ∧ (Arr Z h r4 cl_r4 (.object "dragoman/Operator")) ∧ (cl_r4.slots.size = (4 : Int32).toNatClampNeg) ∧ (cl_r4.slots[(0 : Int32).toNatClampNeg]? = some (.ref r0)) ∧ (Fld Z h r0 "dragoman/Operator" "symbol" "C" (.int (43 : Int32))) ∧ (cl_r4.slots[(1 : Int32).toNatClampNeg]? = some (.ref r1)) ∧ (Fld Z h r1 "dragoman/Operator" "symbol" "C" (.int (45 : Int32))) ∧ (cl_r4.slots[(2 : Int32).toNatClampNeg]? = some (.ref r2)) ∧ (Fld Z h r2 "dragoman/Operator" "symbol" "C" (.int (42 : Int32))) ∧ (cl_r4.slots[(3 : Int32).toNatClampNeg]? = some (.ref r3)) ∧ (Fld Z h r3 "dragoman/Operator" "symbol" "C" (.int (47 : Int32))) ∧ (r0 ≠ r1) ∧ (r0 ≠ r2) ∧ (r0 ≠ r3) ∧ (r1 ≠ r2) ∧ (r1 ≠ r3) ∧ (r2 ≠ r3)
def own_Q (w : Value) (h0 : Heap) (n0 : Nat) (v : Option Value) (h : Heap) (L : List Loc) : Prop := v = some w ∧ Fr n0 L ∧ h = h0
def own_Q0 (w : Value) (n0 : Nat) (v : Option Value) (h : Heap) (L : List Loc) : Prop := v = some w ∧ Fr n0 L
theorem own_W_ext {Z : State} {h h' : Heap} {r0 : Addr} {r1 : Addr} {r2 : Addr} {r3 : Addr} {r4 : Addr} {cl_r4 : Cell} (E : Ext h h') (F : own_W Z h r0 r1 r2 r3 r4 cl_r4) : own_W Z h' r0 r1 r2 r3 r4 cl_r4 := by
  obtain ⟨S_r0, E_r0, S_r1, E_r1, S_r2, E_r2, S_r3, E_r3, S_r4, Ar_r4, Sz_r4, El_r4_0, F_r0_symbol, El_r4_1, F_r1_symbol, El_r4_2, F_r2_symbol, El_r4_3, F_r3_symbol, ne_r0_r1, ne_r0_r2, ne_r0_r3, ne_r1_r2, ne_r1_r3, ne_r2_r3⟩ := F
  exact ⟨S_r0.ext E, E_r0.ext E, S_r1.ext E, E_r1.ext E, S_r2.ext E, E_r2.ext E, S_r3.ext E, E_r3.ext E, S_r4.ext E, Ar_r4.ext E, Sz_r4, El_r4_0, F_r0_symbol.ext E, El_r4_1, F_r1_symbol.ext E, El_r4_2, F_r2_symbol.ext E, El_r4_3, F_r3_symbol.ext E, ne_r0_r1, ne_r0_r2, ne_r0_r3, ne_r1_r2, ne_r1_r3, ne_r2_r3⟩
theorem own_range3 (x : Int32) : (x &&& (3 : Int32)) = 0 ∨ (x &&& (3 : Int32)) = 1 ∨ (x &&& (3 : Int32)) = 2 ∨ (x &&& (3 : Int32)) = 3 := by
  have h1 := c_mask x 3 2 (by decide) (by decide)
  generalize (x &&& (3 : Int32)) = k at h1 ⊢
  have a0 : (0 : Int32).toInt = 0 := by decide
  have a1 : (1 : Int32).toInt = 1 := by decide
  have a2 : (2 : Int32).toInt = 2 := by decide
  have a3 : (3 : Int32).toInt = 3 := by decide
  simp only [← Int32.toInt_inj, a0, a1, a2, a3]
  omega
theorem own_ef0_II (m : MethodId) (x0 : Int32) (x1 : Int32) : entryFrame m #[(.int x0), (.int x1)] maxLocals = mkF m 0 #[.val (.int x0), .val (.int x1), .unset, .unset, .unset, .unset] [] := by first | (simp [entryFrame, mkF, argsToLocals, Value.category, maxLocals]; done) | rfl
theorem own_ef1_I (m : MethodId) (x0 : Int32) : entryFrame m #[(.int x0)] 5 = mkF m 0 #[.val (.int x0), .unset, .unset, .unset, .unset] [] := by first | (simp [entryFrame, mkF, argsToLocals, Value.category]; done) | rfl
theorem own_d1_0 : decode prog_26_method_4_code 0 = .ok (.getstatic 43, 3) := by decide +kernel
theorem own_d1_3 : decode prog_26_method_4_code 3 = .ok (.astore_n 1, 1) := by decide +kernel
theorem own_d1_4 : decode prog_26_method_4_code 4 = .ok (.aload_n 1, 1) := by decide +kernel
theorem own_d1_5 : decode prog_26_method_4_code 5 = .ok (.arraylength, 1) := by decide +kernel
theorem own_d1_6 : decode prog_26_method_4_code 6 = .ok (.istore_n 2, 1) := by decide +kernel
theorem own_d1_7 : decode prog_26_method_4_code 7 = .ok (.iconst 0, 1) := by decide +kernel
theorem own_d1_8 : decode prog_26_method_4_code 8 = .ok (.istore_n 3, 1) := by decide +kernel
theorem own_d1_9 : decode prog_26_method_4_code 9 = .ok (.iload_n 3, 1) := by decide +kernel
theorem own_d1_10 : decode prog_26_method_4_code 10 = .ok (.iload_n 2, 1) := by decide +kernel
theorem own_d1_11 : decode prog_26_method_4_code 11 = .ok (.if_icmp .ge 26, 3) := by decide +kernel
theorem own_d1_14 : decode prog_26_method_4_code 14 = .ok (.aload_n 1, 1) := by decide +kernel
theorem own_d1_15 : decode prog_26_method_4_code 15 = .ok (.iload_n 3, 1) := by decide +kernel
theorem own_d1_16 : decode prog_26_method_4_code 16 = .ok (.aaload, 1) := by decide +kernel
theorem own_d1_17 : decode prog_26_method_4_code 17 = .ok (.astore 4, 2) := by decide +kernel
theorem own_d1_19 : decode prog_26_method_4_code 19 = .ok (.aload 4, 2) := by decide +kernel
theorem own_d1_21 : decode prog_26_method_4_code 21 = .ok (.getfield 35, 3) := by decide +kernel
theorem own_d1_24 : decode prog_26_method_4_code 24 = .ok (.iload_n 0, 1) := by decide +kernel
theorem own_d1_25 : decode prog_26_method_4_code 25 = .ok (.if_icmp .ne 6, 3) := by decide +kernel
theorem own_d1_28 : decode prog_26_method_4_code 28 = .ok (.aload 4, 2) := by decide +kernel
theorem own_d1_30 : decode prog_26_method_4_code 30 = .ok (.areturn, 1) := by decide +kernel
theorem own_pn_Operator : plainName "dragoman/Operator" = true := by first | (simp [plainName, overriddenIn]; done) | decide +kernel
set_option maxRecDepth 65536 in
set_option maxHeartbeats 40000000 in
theorem own_r1_2 (l : Launch) (Z : State) (a0 : Array Value) (hw : ∀ d ∈ tables_1, d.before a0 Z = true) (ws : List Jvm.Cond) (r0 : Addr) (r1 : Addr) (r2 : Addr) (r3 : Addr) (r4 : Addr) (cl_r4 : Cell) (h0 : Heap) (n0 : Nat) (Z0 : n0 ≤ h0.size) (F : own_W Z h0 r0 r1 r2 r3 r4 cl_r4) (q0 : Int32) (hs43 : q0 = (43 : Int32)) :
    MetFree l (⟨"dragoman/Operator", "bySymbol", "(C)Ldragoman/Operator;"⟩ : MethodName) (head1 (Jvm.Cond.code (⟨"dragoman/Operator", "bySymbol", "(C)Ldragoman/Operator;"⟩ : MethodName) prog_26_method_4_code 5 (some (.object "dragoman/Operator")) :: ws) ({ frames := 0, cells := 0, slots := 0, locals := 0 } : Room)) (fun a U => a = #[(.int q0)] ∧ Z.Warmed39 U.vm ∧ U.heap = h0) (fun _ _ _ _ _ => True) (fun _ U o U' => ∃ v L, o = .returned v ∧ own_Q (.ref r0) h0 n0 v U'.heap L ∧ FrameEnd U o U' L ({ frames := 0, cells := 0, slots := 0, locals := 0 } : Room).cells ({ frames := 0, cells := 0, slots := 0, locals := 0 } : Room).slots) := by
  obtain ⟨S_r0, E_r0, S_r1, E_r1, S_r2, E_r2, S_r3, E_r3, S_r4, Ar_r4, Sz_r4, El_r4_0, F_r0_symbol, El_r4_1, F_r1_symbol, El_r4_2, F_r2_symbol, El_r4_3, F_r3_symbol, ne_r0_r1, ne_r0_r2, ne_r0_r3, ne_r1_r2, ne_r1_r3, ne_r2_r3⟩ := id F
  refine MetFree.of_bodySF (plainFor_of_name own_pn_Operator) hisR ?_
  intro p e s m args below meth c s₁ Bd hml0 hP hK
  obtain ⟨rfl, hZ, hh⟩ := hP
  have hx := Bd.exec
  have hby := Bd.bytes
  have hml : c.maxLocals = 5 := hml0
  have hown : s.vm.findClass "dragoman/Operator" = some m.cls := findClass_of_methodNamed Bd.named
  have X0 : Stand p l e ({ frames := 0, cells := 0, slots := 0, locals := 0 } : Room) s m #[(.int q0)] below meth c s₁ [] 0 0 := Stand.of_body Bd
  have e0 : s₁.heap = h0 := by rw [← hh, Bd.state]; rfl
  have N0 := Fr.nil n0
  have pre0 : ∀ t, Steps p.tables e below (s₁.setTop (mkF m 0 #[.val (.int q0), .unset, .unset, .unset, .unset] [])) t → Steps p.tables e below (s₁.setTop (entryFrame m #[(.int q0)] 5)) t := fun t k => castTop (own_ef1_I m q0) k
  obtain ⟨T1, X1, e1, st1⟩ := getS2 X0 hx hZ hown (host := "") (Or.inl (hw _ (List.mem_of_getElem? (i := 5) rfl))) Via.refl e0 S_r4 (g := (mkF m 0 #[.val (.int q0), .unset, .unset, .unset, .unset] [])) rfl (hb hby own_d1_0)
  obtain ⟨T2, X2, e2, st2⟩ := getF X1 hx hZ hown (host := "") (Or.inl (hw _ (List.mem_of_getElem? (i := 8) rfl))) Via.refl e1 F_r0_symbol (g := (mkF m 21 #[.val (.int q0), .val (.ref r4), .val (.int (4 : Int32)), .val (.int (0 : Int32)), .val (.ref r0)] [(.ref r0)])) rfl rfl (hb hby own_d1_21)
  obtain ⟨fs, hr, hrun, hended, hW, hsame⟩ := X2.leave (v := some (.ref r0)) (fun h => by rw [Bd.returns] at h; cases h)
  refine ⟨_, _, pre0 _ ?_, hrun, hended, _, _, rfl, ?_, ⟨_, rfl⟩, hW, hsame.mono (by decide) (by decide)⟩
  · show Steps p.tables e below (s₁.setTop (mkF m 0 #[.val (.int q0), .unset, .unset, .unset, .unset] [])) _
    refine st1 _ ?_
    show Steps p.tables e below (T1.setTop (mkF m 3 #[.val (.int q0), .unset, .unset, .unset, .unset] [(.ref r4)])) _
    refine XS.astoreN X1.here hx rfl (hb hby own_d1_3) rfl rfl (l' := #[.val (.int q0), .val (.ref r4), .unset, .unset, .unset]) rfl ?_
    show Steps p.tables e below (T1.setTop (mkF m 4 #[.val (.int q0), .val (.ref r4), .unset, .unset, .unset] [])) _
    refine XS.aloadN X1.here hx rfl (hb hby own_d1_4) rfl rfl ?_
    show Steps p.tables e below (T1.setTop (mkF m 5 #[.val (.int q0), .val (.ref r4), .unset, .unset, .unset] [(.ref r4)])) _
    refine X1.arraylength hx (by rw [e1]; exact Ar_r4.1) (State.isArrayOf_alike hZ.alike Ar_r4.2.1) (g := (mkF m 5 #[.val (.int q0), .val (.ref r4), .unset, .unset, .unset] [(.ref r4)])) rfl rfl (hb hby own_d1_5) _ ?_
    rw [len_of Sz_r4 (by decide)]
    show Steps p.tables e below (T1.setTop (mkF m 6 #[.val (.int q0), .val (.ref r4), .unset, .unset, .unset] [(.int (4 : Int32))])) _
    refine XS.istoreN X1.here hx rfl (hb hby own_d1_6) rfl (l' := #[.val (.int q0), .val (.ref r4), .val (.int (4 : Int32)), .unset, .unset]) rfl ?_
    show Steps p.tables e below (T1.setTop (mkF m 7 #[.val (.int q0), .val (.ref r4), .val (.int (4 : Int32)), .unset, .unset] [])) _
    refine XS.iconst X1.here hx rfl (hb hby own_d1_7) ?_
    show Steps p.tables e below (T1.setTop (mkF m 8 #[.val (.int q0), .val (.ref r4), .val (.int (4 : Int32)), .unset, .unset] [(.int (0 : Int32))])) _
    refine XS.istoreN X1.here hx rfl (hb hby own_d1_8) rfl (l' := #[.val (.int q0), .val (.ref r4), .val (.int (4 : Int32)), .val (.int (0 : Int32)), .unset]) rfl ?_
    show Steps p.tables e below (T1.setTop (mkF m 9 #[.val (.int q0), .val (.ref r4), .val (.int (4 : Int32)), .val (.int (0 : Int32)), .unset] [])) _
    refine XS.iloadN X1.here hx rfl (hb hby own_d1_9) rfl ?_
    show Steps p.tables e below (T1.setTop (mkF m 10 #[.val (.int q0), .val (.ref r4), .val (.int (4 : Int32)), .val (.int (0 : Int32)), .unset] [(.int (0 : Int32))])) _
    refine XS.iloadN X1.here hx rfl (hb hby own_d1_10) rfl ?_
    show Steps p.tables e below (T1.setTop (mkF m 11 #[.val (.int q0), .val (.ref r4), .val (.int (4 : Int32)), .val (.int (0 : Int32)), .unset] [(.int (4 : Int32)), (.int (0 : Int32))])) _
    refine XS.icmpNo X1.here hx rfl (hb hby own_d1_11) rfl (tlt (by decide : (0 : Int32) < (4 : Int32))).2.1 ?_
    show Steps p.tables e below (T1.setTop (mkF m 14 #[.val (.int q0), .val (.ref r4), .val (.int (4 : Int32)), .val (.int (0 : Int32)), .unset] [])) _
    refine XS.aloadN X1.here hx rfl (hb hby own_d1_14) rfl rfl ?_
    show Steps p.tables e below (T1.setTop (mkF m 15 #[.val (.int q0), .val (.ref r4), .val (.int (4 : Int32)), .val (.int (0 : Int32)), .unset] [(.ref r4)])) _
    refine XS.iloadN X1.here hx rfl (hb hby own_d1_15) rfl ?_
    show Steps p.tables e below (T1.setTop (mkF m 16 #[.val (.int q0), .val (.ref r4), .val (.int (4 : Int32)), .val (.int (0 : Int32)), .unset] [(.int (0 : Int32)), (.ref r4)])) _
    refine X1.aaload hx (j := (0 : Int32)) (v := (.ref r0)) (by rw [e1]; exact Ar_r4.1) (State.isArrayOf_alike hZ.alike Ar_r4.2.1) rfl Ar_r4.2.2 (inb_of Sz_r4 ⟨by decide, by decide⟩) El_r4_0 (g := (mkF m 16 #[.val (.int q0), .val (.ref r4), .val (.int (4 : Int32)), .val (.int (0 : Int32)), .unset] [(.int (0 : Int32)), (.ref r4)])) rfl rfl (hb hby own_d1_16) _ ?_
    show Steps p.tables e below (T1.setTop (mkF m 17 #[.val (.int q0), .val (.ref r4), .val (.int (4 : Int32)), .val (.int (0 : Int32)), .unset] [(.ref r0)])) _
    refine XS.astore X1.here hx rfl (hb hby own_d1_17) rfl rfl (l' := #[.val (.int q0), .val (.ref r4), .val (.int (4 : Int32)), .val (.int (0 : Int32)), .val (.ref r0)]) rfl ?_
    show Steps p.tables e below (T1.setTop (mkF m 19 #[.val (.int q0), .val (.ref r4), .val (.int (4 : Int32)), .val (.int (0 : Int32)), .val (.ref r0)] [])) _
    refine XS.aload X1.here hx rfl (hb hby own_d1_19) rfl rfl ?_
    show Steps p.tables e below (T1.setTop (mkF m 21 #[.val (.int q0), .val (.ref r4), .val (.int (4 : Int32)), .val (.int (0 : Int32)), .val (.ref r0)] [(.ref r0)])) _
    refine st2 _ ?_
    show Steps p.tables e below (T2.setTop (mkF m 24 #[.val (.int q0), .val (.ref r4), .val (.int (4 : Int32)), .val (.int (0 : Int32)), .val (.ref r0)] [(.int (43 : Int32))])) _
    refine XS.iloadN X2.here hx rfl (hb hby own_d1_24) rfl ?_
    show Steps p.tables e below (T2.setTop (mkF m 25 #[.val (.int q0), .val (.ref r4), .val (.int (4 : Int32)), .val (.int (0 : Int32)), .val (.ref r0)] [(.int q0), (.int (43 : Int32))])) _
    refine XS.icmpNo X2.here hx rfl (hb hby own_d1_25) rfl (teq (hs43.symm : (43 : Int32) = q0)).2 ?_
    show Steps p.tables e below (T2.setTop (mkF m 28 #[.val (.int q0), .val (.ref r4), .val (.int (4 : Int32)), .val (.int (0 : Int32)), .val (.ref r0)] [])) _
    refine XS.aload X2.here hx rfl (hb hby own_d1_28) rfl rfl ?_
    show Steps p.tables e below (T2.setTop (mkF m 30 #[.val (.int q0), .val (.ref r4), .val (.int (4 : Int32)), .val (.int (0 : Int32)), .val (.ref r0)] [(.ref r0)])) _
    jvm_step X2.here [X2.here.top, hx, (hb hby own_d1_30), X2.method', Bd.returns, Value.isRef, FieldType.isReference]
    first | (intro acts; rw [hr _ acts rfl rfl rfl]) | rw [hr _ _ rfl rfl rfl]
    exact Steps.refl _
  · exact ⟨rfl, N0, e2⟩
theorem own_pd0 : parseMethodDescriptor "(C)Ldragoman/Operator;" = some ⟨[.char], some (.object "dragoman/Operator")⟩ := by decide +kernel
theorem own_ef2_I (m : MethodId) (x0 : Int32) : entryFrame m #[(.int x0)] 1 = mkF m 0 #[.val (.int x0)] [] := by first | (simp [entryFrame, mkF, argsToLocals, Value.category]; done) | rfl
theorem own_d2_0 : decode method_3_code 0 = .ok (.iload_n 0, 1) := by decide +kernel
theorem own_d2_1 : decode method_3_code 1 = .ok (.bipush 43, 2) := by decide +kernel
theorem own_d2_3 : decode method_3_code 3 = .ok (.if_icmp .ne 7, 3) := by decide +kernel
theorem own_d2_6 : decode method_3_code 6 = .ok (.getstatic 19, 3) := by decide +kernel
theorem own_d2_9 : decode method_3_code 9 = .ok (.areturn, 1) := by decide +kernel
theorem own_pn_OperatorBySymbolPinLaw : plainName "dragoman/OperatorBySymbolPinLaw" = true := by first | (simp [plainName, overriddenIn]; done) | decide +kernel
set_option maxRecDepth 65536 in
set_option maxHeartbeats 40000000 in
theorem own_r2_3 (l : Launch) (Z : State) (a0 : Array Value) (hw : ∀ d ∈ tables_1, d.before a0 Z = true) (ws : List Jvm.Cond) (r0 : Addr) (r1 : Addr) (r2 : Addr) (r3 : Addr) (r4 : Addr) (cl_r4 : Cell) (h0 : Heap) (n0 : Nat) (Z0 : n0 ≤ h0.size) (F : own_W Z h0 r0 r1 r2 r3 r4 cl_r4) (q0 : Int32) (hs43 : q0 = (43 : Int32)) :
    MetFree l (⟨"dragoman/OperatorBySymbolPinLaw", "expected", "(C)Ldragoman/Operator;"⟩ : MethodName) (head1 (Jvm.Cond.code (⟨"dragoman/OperatorBySymbolPinLaw", "expected", "(C)Ldragoman/Operator;"⟩ : MethodName) method_3_code 1 (some (.object "dragoman/Operator")) :: ws) ({ frames := 0, cells := 0, slots := 0, locals := 0 } : Room)) (fun a U => a = #[(.int q0)] ∧ Z.Warmed39 U.vm ∧ U.heap = h0) (fun _ _ _ _ _ => True) (fun _ U o U' => ∃ v L, o = .returned v ∧ own_Q (.ref r0) h0 n0 v U'.heap L ∧ FrameEnd U o U' L ({ frames := 0, cells := 0, slots := 0, locals := 0 } : Room).cells ({ frames := 0, cells := 0, slots := 0, locals := 0 } : Room).slots) := by
  obtain ⟨S_r0, E_r0, S_r1, E_r1, S_r2, E_r2, S_r3, E_r3, S_r4, Ar_r4, Sz_r4, El_r4_0, F_r0_symbol, El_r4_1, F_r1_symbol, El_r4_2, F_r2_symbol, El_r4_3, F_r3_symbol, ne_r0_r1, ne_r0_r2, ne_r0_r3, ne_r1_r2, ne_r1_r3, ne_r2_r3⟩ := id F
  refine MetFree.of_bodySF (plainFor_of_name own_pn_OperatorBySymbolPinLaw) hisR ?_
  intro p e s m args below meth c s₁ Bd hml0 hP hK
  obtain ⟨rfl, hZ, hh⟩ := hP
  have hx := Bd.exec
  have hby := Bd.bytes
  have hml : c.maxLocals = 1 := hml0
  have hown : s.vm.findClass "dragoman/OperatorBySymbolPinLaw" = some m.cls := findClass_of_methodNamed Bd.named
  have X0 : Stand p l e ({ frames := 0, cells := 0, slots := 0, locals := 0 } : Room) s m #[(.int q0)] below meth c s₁ [] 0 0 := Stand.of_body Bd
  have e0 : s₁.heap = h0 := by rw [← hh, Bd.state]; rfl
  have N0 := Fr.nil n0
  have pre0 : ∀ t, Steps p.tables e below (s₁.setTop (mkF m 0 #[.val (.int q0)] [])) t → Steps p.tables e below (s₁.setTop (entryFrame m #[(.int q0)] 1)) t := fun t k => castTop (own_ef2_I m q0) k
  obtain ⟨T1, X1, e1, st1⟩ := getS2 X0 hx hZ hown (host := "") (Or.inl (hw _ (List.mem_of_getElem? (i := 14) rfl))) Via.refl e0 S_r0 (g := (mkF m 6 #[.val (.int q0)] [])) rfl (hb hby own_d2_6)
  obtain ⟨fs, hr, hrun, hended, hW, hsame⟩ := X1.leave (v := some (.ref r0)) (fun h => by rw [Bd.returns] at h; cases h)
  refine ⟨_, _, pre0 _ ?_, hrun, hended, _, _, rfl, ?_, ⟨_, rfl⟩, hW, hsame.mono (by decide) (by decide)⟩
  · show Steps p.tables e below (s₁.setTop (mkF m 0 #[.val (.int q0)] [])) _
    refine XS.iloadN X0.here hx rfl (hb hby own_d2_0) rfl ?_
    show Steps p.tables e below (s₁.setTop (mkF m 1 #[.val (.int q0)] [(.int q0)])) _
    refine XS.bipush X0.here hx rfl (hb hby own_d2_1) ?_
    show Steps p.tables e below (s₁.setTop (mkF m 3 #[.val (.int q0)] [(.int (43 : Int32)), (.int q0)])) _
    refine XS.icmpNo X0.here hx rfl (hb hby own_d2_3) rfl (teq (hs43 : q0 = (43 : Int32))).2 ?_
    show Steps p.tables e below (s₁.setTop (mkF m 6 #[.val (.int q0)] [])) _
    refine st1 _ ?_
    show Steps p.tables e below (T1.setTop (mkF m 9 #[.val (.int q0)] [(.ref r0)])) _
    jvm_step X1.here [X1.here.top, hx, (hb hby own_d2_9), X1.method', Bd.returns, Value.isRef, FieldType.isReference]
    first | (intro acts; rw [hr _ acts rfl rfl rfl]) | rw [hr _ _ rfl rfl rfl]
    exact Steps.refl _
  · exact ⟨rfl, N0, e1⟩
set_option maxRecDepth 65536 in
set_option maxHeartbeats 40000000 in
theorem own_r0_m0q0 (l : Launch) (Z : State) (a0 : Array Value) (hw : ∀ d ∈ tables_1, d.before a0 Z = true) (ws : List Jvm.Cond) (r0 : Addr) (r1 : Addr) (r2 : Addr) (r3 : Addr) (r4 : Addr) (cl_r4 : Cell) (h0 : Heap) (n0 : Nat) (Z0 : n0 ≤ h0.size) (F : own_W Z h0 r0 r1 r2 r3 r4 cl_r4) (i0 : Int32) (i1 : Int32) (hm : (i1 &&& (3 : Int32)) = (0 : Int32)) (hs43 : ((i0 &&& (65535 : Int32)).toUInt32.toUInt16.toUInt32.toInt32) = (43 : Int32)) :
    MetFree l x (head1 (Jvm.Cond.code x code maxLocals ret :: ws) room_1) (fun a U => a = #[(.int i0), (.int i1)] ∧ Z.Warmed39 U.vm ∧ U.heap = h0) (fun _ _ _ _ _ => True) (fun _ U o U' => ∃ v L, o = .returned v ∧ own_Q0 (.int (1 : Int32)) n0 v U'.heap L ∧ FrameEnd U o U' L room_1.cells room_1.slots) := by
  obtain ⟨S_r0, E_r0, S_r1, E_r1, S_r2, E_r2, S_r3, E_r3, S_r4, Ar_r4, Sz_r4, El_r4_0, F_r0_symbol, El_r4_1, F_r1_symbol, El_r4_2, F_r2_symbol, El_r4_3, F_r3_symbol, ne_r0_r1, ne_r0_r2, ne_r0_r3, ne_r1_r2, ne_r1_r3, ne_r2_r3⟩ := id F
  refine MetFree.of_bodySF (plainFor_of_name own_pn_OperatorBySymbolPinLaw) hisR ?_
  intro p e s m args below meth c s₁ Bd hml0 hP hK
  obtain ⟨rfl, hZ, hh⟩ := hP
  have hx := Bd.exec
  have hby := Bd.bytes
  have hml : c.maxLocals = 6 := hml0
  have hown : s.vm.findClass "dragoman/OperatorBySymbolPinLaw" = some m.cls := findClass_of_methodNamed Bd.named
  have X0 : Stand p l e room_1 s m #[(.int i0), (.int i1)] below meth c s₁ [] 0 0 := Stand.of_body Bd
  have e0 : s₁.heap = h0 := by rw [← hh, Bd.state]; rfl
  have N0 := Fr.nil n0
  have pre0 : ∀ t, Steps p.tables e below (s₁.setTop (mkF m 0 #[.val (.int i0), .val (.int i1), .unset, .unset, .unset, .unset] [])) t → Steps p.tables e below (s₁.setTop (entryFrame m #[(.int i0), (.int i1)] maxLocals)) t := fun t k => castTop (own_ef0_II m i0 i1) k
  obtain ⟨_, _, ⟨T1, L1, k1, n1⟩, -, X1, ⟨Lc1, hQ1, l1, y1, z1⟩, st1⟩ := Jvm.LawKit.callS X0 hx (y := (⟨"dragoman/Operator", "bySymbol", "(C)Ldragoman/Operator;"⟩ : MethodName)) hown (mvT hZ (hw _ (List.mem_of_getElem? (i := 1) rfl))) (mvT hZ (hw _ (List.mem_of_getElem? (i := 2) rfl))) (mvT hZ (hw _ (List.mem_of_getElem? (i := 3) rfl))) (mvT hZ (hw _ (List.mem_of_getElem? (i := 4) rfl))) (by decide) (backOf (W := 0) (own_r1_2 l Z a0 hw [] r0 r1 r2 r3 r4 cl_r4 h0 n0 Z0 F ((i0 &&& (65535 : Int32)).toUInt32.toUInt16.toUInt32.toInt32) hs43) hZ (hw _ (List.mem_of_getElem? (i := 4) rfl)) (hw _ (List.mem_of_getElem? (i := 3) rfl)) (by decide) (by decide)) (g := (mkF m 67 #[.val (.int i0), .val (.int i1), .val (.int (0 : Int32)), .val (.int ((i0 &&& (65535 : Int32)).toUInt32.toUInt16.toUInt32.toInt32)), .unset, .unset] [(.int ((i0 &&& (65535 : Int32)).toUInt32.toUInt16.toUInt32.toInt32))])) rfl (by rw [hml]; rfl) (argsL := [(.int ((i0 &&& (65535 : Int32)).toUInt32.toUInt16.toUInt32.toInt32))]) (rest := []) (lenOf own_pd0 rfl) rfl (by show 2 * 0 + _ ≤ _; exact Nat.le_of_eq rfl) (hb hby at_67) (fun _ _ => ⟨rfl, e0, (by decide : 0 + 0 ≤ _), (by decide : 0 + 0 ≤ _)⟩)
  dsimp only [Pt.U, Pt.locs, Pt.cells, Pt.slots] at X1 l1 y1 z1 st1 hQ1
  subst l1 y1 z1
  obtain ⟨rfl, N1q, e1⟩ := hQ1
  have N1 := Fr.app N0 N1q
  obtain ⟨_, _, ⟨T2, L2, k2, n2⟩, -, X2, ⟨Lc2, hQ2, l2, y2, z2⟩, st2⟩ := Jvm.LawKit.callS X1 hx (y := (⟨"dragoman/OperatorBySymbolPinLaw", "expected", "(C)Ldragoman/Operator;"⟩ : MethodName)) hown (mvT hZ (hw _ (List.mem_of_getElem? (i := 10) rfl))) (mvT hZ (hw _ (List.mem_of_getElem? (i := 11) rfl))) (mvT hZ (hw _ (List.mem_of_getElem? (i := 12) rfl))) (mvT hZ (hw _ (List.mem_of_getElem? (i := 13) rfl))) (by decide) (backOf (W := 0) (own_r2_3 l Z a0 hw [] r0 r1 r2 r3 r4 cl_r4 h0 n0 Z0 F ((i0 &&& (65535 : Int32)).toUInt32.toUInt16.toUInt32.toInt32) hs43) hZ (hw _ (List.mem_of_getElem? (i := 13) rfl)) (hw _ (List.mem_of_getElem? (i := 12) rfl)) (by decide) (by decide)) (g := (mkF m 73 #[.val (.int i0), .val (.int i1), .val (.int (0 : Int32)), .val (.int ((i0 &&& (65535 : Int32)).toUInt32.toUInt16.toUInt32.toInt32)), .val (.ref r0), .unset] [(.int ((i0 &&& (65535 : Int32)).toUInt32.toUInt16.toUInt32.toInt32))])) rfl (by rw [hml]; rfl) (argsL := [(.int ((i0 &&& (65535 : Int32)).toUInt32.toUInt16.toUInt32.toInt32))]) (rest := []) (lenOf own_pd0 rfl) rfl (by show 2 * 0 + _ ≤ _; exact Nat.le_of_eq rfl) (hb hby at_73) (fun _ _ => ⟨rfl, e1, (by decide : 0 + 0 ≤ _), (by decide : 0 + 0 ≤ _)⟩)
  dsimp only [Pt.U, Pt.locs, Pt.cells, Pt.slots] at X2 l2 y2 z2 st2 hQ2
  subst l2 y2 z2
  obtain ⟨rfl, N2q, e2⟩ := hQ2
  have N2 := Fr.app N1 N2q
  obtain ⟨fs, hr, hrun, hended, hW, hsame⟩ := X2.leave (v := some (.int (1 : Int32))) (fun h => by rw [Bd.returns] at h; cases h)
  refine ⟨_, _, pre0 _ ?_, hrun, hended, _, _, rfl, ?_, ⟨_, rfl⟩, hW, hsame.mono (by decide) (by decide)⟩
  · show Steps p.tables e below (s₁.setTop (mkF m 0 #[.val (.int i0), .val (.int i1), .unset, .unset, .unset, .unset] [])) _
    refine XS.iloadN X0.here hx rfl (hb hby at_0) rfl ?_
    show Steps p.tables e below (s₁.setTop (mkF m 1 #[.val (.int i0), .val (.int i1), .unset, .unset, .unset, .unset] [(.int i1)])) _
    refine XS.iconst X0.here hx rfl (hb hby at_1) ?_
    show Steps p.tables e below (s₁.setTop (mkF m 2 #[.val (.int i0), .val (.int i1), .unset, .unset, .unset, .unset] [(.int (3 : Int32)), (.int i1)])) _
    refine XS.iand X0.here hx rfl (hb hby at_2) rfl ?_
    show Steps p.tables e below (s₁.setTop (mkF m 3 #[.val (.int i0), .val (.int i1), .unset, .unset, .unset, .unset] [(.int (i1 &&& (3 : Int32)))])) _
    rw [hm]
    show Steps p.tables e below (s₁.setTop (mkF m 3 #[.val (.int i0), .val (.int i1), .unset, .unset, .unset, .unset] [(.int (0 : Int32))])) _
    refine XS.istoreN X0.here hx rfl (hb hby at_3) rfl (l' := #[.val (.int i0), .val (.int i1), .val (.int (0 : Int32)), .unset, .unset, .unset]) rfl ?_
    show Steps p.tables e below (s₁.setTop (mkF m 4 #[.val (.int i0), .val (.int i1), .val (.int (0 : Int32)), .unset, .unset, .unset] [])) _
    refine XS.iloadN X0.here hx rfl (hb hby at_4) rfl ?_
    show Steps p.tables e below (s₁.setTop (mkF m 5 #[.val (.int i0), .val (.int i1), .val (.int (0 : Int32)), .unset, .unset, .unset] [(.int (0 : Int32))])) _
    refine XS.ifNo X0.here hx rfl (hb hby at_5) rfl ((if0 _ _).trans (teq (by decide : (0 : Int32) = (0 : Int32))).2) ?_
    show Steps p.tables e below (s₁.setTop (mkF m 8 #[.val (.int i0), .val (.int i1), .val (.int (0 : Int32)), .unset, .unset, .unset] [])) _
    refine XS.iloadN X0.here hx rfl (hb hby at_8) rfl ?_
    show Steps p.tables e below (s₁.setTop (mkF m 9 #[.val (.int i0), .val (.int i1), .val (.int (0 : Int32)), .unset, .unset, .unset] [(.int i0)])) _
    refine X0.ldcInt hx hown (mvT hZ (hw _ (List.mem_of_getElem? (i := 18) rfl))) (g := (mkF m 9 #[.val (.int i0), .val (.int i1), .val (.int (0 : Int32)), .unset, .unset, .unset] [(.int i0)])) rfl (hb hby at_9) _ ?_
    show Steps p.tables e below (s₁.setTop (mkF m 11 #[.val (.int i0), .val (.int i1), .val (.int (0 : Int32)), .unset, .unset, .unset] [(.int (65535 : Int32)), (.int i0)])) _
    refine XS.iand X0.here hx rfl (hb hby at_11) rfl ?_
    show Steps p.tables e below (s₁.setTop (mkF m 12 #[.val (.int i0), .val (.int i1), .val (.int (0 : Int32)), .unset, .unset, .unset] [(.int (i0 &&& (65535 : Int32)))])) _
    refine XS.i2c X0.here hx rfl (hb hby at_12) rfl ?_
    show Steps p.tables e below (s₁.setTop (mkF m 13 #[.val (.int i0), .val (.int i1), .val (.int (0 : Int32)), .unset, .unset, .unset] [(.int ((i0 &&& (65535 : Int32)).toUInt32.toUInt16.toUInt32.toInt32))])) _
    refine XS.istoreN X0.here hx rfl (hb hby at_13) rfl (l' := #[.val (.int i0), .val (.int i1), .val (.int (0 : Int32)), .val (.int ((i0 &&& (65535 : Int32)).toUInt32.toUInt16.toUInt32.toInt32)), .unset, .unset]) rfl ?_
    show Steps p.tables e below (s₁.setTop (mkF m 14 #[.val (.int i0), .val (.int i1), .val (.int (0 : Int32)), .val (.int ((i0 &&& (65535 : Int32)).toUInt32.toUInt16.toUInt32.toInt32)), .unset, .unset] [])) _
    refine XS.goto X0.here hx rfl (pc0 := 14) (pc' := 66) rfl (hb hby at_14) (by decide) (by decide) ?_
    show Steps p.tables e below (s₁.setTop (mkF m 66 #[.val (.int i0), .val (.int i1), .val (.int (0 : Int32)), .val (.int ((i0 &&& (65535 : Int32)).toUInt32.toUInt16.toUInt32.toInt32)), .unset, .unset] [])) _
    refine XS.iloadN X0.here hx rfl (hb hby at_66) rfl ?_
    show Steps p.tables e below (s₁.setTop (mkF m 67 #[.val (.int i0), .val (.int i1), .val (.int (0 : Int32)), .val (.int ((i0 &&& (65535 : Int32)).toUInt32.toUInt16.toUInt32.toInt32)), .unset, .unset] [(.int ((i0 &&& (65535 : Int32)).toUInt32.toUInt16.toUInt32.toInt32))])) _
    refine st1 _ ?_
    show Steps p.tables e below (T1.setTop (mkF m 70 #[.val (.int i0), .val (.int i1), .val (.int (0 : Int32)), .val (.int ((i0 &&& (65535 : Int32)).toUInt32.toUInt16.toUInt32.toInt32)), .unset, .unset] [(.ref r0)])) _
    refine XS.astore X1.here hx rfl (hb hby at_70) rfl rfl (l' := #[.val (.int i0), .val (.int i1), .val (.int (0 : Int32)), .val (.int ((i0 &&& (65535 : Int32)).toUInt32.toUInt16.toUInt32.toInt32)), .val (.ref r0), .unset]) rfl ?_
    show Steps p.tables e below (T1.setTop (mkF m 72 #[.val (.int i0), .val (.int i1), .val (.int (0 : Int32)), .val (.int ((i0 &&& (65535 : Int32)).toUInt32.toUInt16.toUInt32.toInt32)), .val (.ref r0), .unset] [])) _
    refine XS.iloadN X1.here hx rfl (hb hby at_72) rfl ?_
    show Steps p.tables e below (T1.setTop (mkF m 73 #[.val (.int i0), .val (.int i1), .val (.int (0 : Int32)), .val (.int ((i0 &&& (65535 : Int32)).toUInt32.toUInt16.toUInt32.toInt32)), .val (.ref r0), .unset] [(.int ((i0 &&& (65535 : Int32)).toUInt32.toUInt16.toUInt32.toInt32))])) _
    refine st2 _ ?_
    show Steps p.tables e below (T2.setTop (mkF m 76 #[.val (.int i0), .val (.int i1), .val (.int (0 : Int32)), .val (.int ((i0 &&& (65535 : Int32)).toUInt32.toUInt16.toUInt32.toInt32)), .val (.ref r0), .unset] [(.ref r0)])) _
    refine XS.astore X2.here hx rfl (hb hby at_76) rfl rfl (l' := #[.val (.int i0), .val (.int i1), .val (.int (0 : Int32)), .val (.int ((i0 &&& (65535 : Int32)).toUInt32.toUInt16.toUInt32.toInt32)), .val (.ref r0), .val (.ref r0)]) rfl ?_
    show Steps p.tables e below (T2.setTop (mkF m 78 #[.val (.int i0), .val (.int i1), .val (.int (0 : Int32)), .val (.int ((i0 &&& (65535 : Int32)).toUInt32.toUInt16.toUInt32.toInt32)), .val (.ref r0), .val (.ref r0)] [])) _
    refine XS.aload X2.here hx rfl (hb hby at_78) rfl rfl ?_
    show Steps p.tables e below (T2.setTop (mkF m 80 #[.val (.int i0), .val (.int i1), .val (.int (0 : Int32)), .val (.int ((i0 &&& (65535 : Int32)).toUInt32.toUInt16.toUInt32.toInt32)), .val (.ref r0), .val (.ref r0)] [(.ref r0)])) _
    refine XS.aload X2.here hx rfl (hb hby at_80) rfl rfl ?_
    show Steps p.tables e below (T2.setTop (mkF m 82 #[.val (.int i0), .val (.int i1), .val (.int (0 : Int32)), .val (.int ((i0 &&& (65535 : Int32)).toUInt32.toUInt16.toUInt32.toInt32)), .val (.ref r0), .val (.ref r0)] [(.ref r0), (.ref r0)])) _
    refine Jvm.RoadKit.acmp (g := (mkF m 82 #[.val (.int i0), .val (.int i1), .val (.int (0 : Int32)), .val (.int ((i0 &&& (65535 : Int32)).toUInt32.toUInt16.toUInt32.toInt32)), .val (.ref r0), .val (.ref r0)] [(.ref r0), (.ref r0)])) X2 hx rfl rfl rfl (pc0 := 82) (pc' := 85) (same := true) rfl (hb hby at_82) rfl (decide_eq_true rfl) (by decide) (by decide) ?_
    show Steps p.tables e below (T2.setTop (mkF m 85 #[.val (.int i0), .val (.int i1), .val (.int (0 : Int32)), .val (.int ((i0 &&& (65535 : Int32)).toUInt32.toUInt16.toUInt32.toInt32)), .val (.ref r0), .val (.ref r0)] [])) _
    refine XS.iconst X2.here hx rfl (hb hby at_85) ?_
    show Steps p.tables e below (T2.setTop (mkF m 86 #[.val (.int i0), .val (.int i1), .val (.int (0 : Int32)), .val (.int ((i0 &&& (65535 : Int32)).toUInt32.toUInt16.toUInt32.toInt32)), .val (.ref r0), .val (.ref r0)] [(.int (1 : Int32))])) _
    refine XS.goto X2.here hx rfl (pc0 := 86) (pc' := 90) rfl (hb hby at_86) (by decide) (by decide) ?_
    show Steps p.tables e below (T2.setTop (mkF m 90 #[.val (.int i0), .val (.int i1), .val (.int (0 : Int32)), .val (.int ((i0 &&& (65535 : Int32)).toUInt32.toUInt16.toUInt32.toInt32)), .val (.ref r0), .val (.ref r0)] [(.int (1 : Int32))])) _
    exact retN X2 hx (t := .boolean) Bd.returns (by simp) (hb hby at_90) hr
  · exact ⟨rfl, N2⟩
theorem own_d1_31 : decode prog_26_method_4_code 31 = .ok (.iinc 3 1, 3) := by decide +kernel
theorem own_d1_34 : decode prog_26_method_4_code 34 = .ok (.goto (-25), 3) := by decide +kernel
set_option maxRecDepth 65536 in
set_option maxHeartbeats 40000000 in
theorem own_r1_5 (l : Launch) (Z : State) (a0 : Array Value) (hw : ∀ d ∈ tables_1, d.before a0 Z = true) (ws : List Jvm.Cond) (r0 : Addr) (r1 : Addr) (r2 : Addr) (r3 : Addr) (r4 : Addr) (cl_r4 : Cell) (h0 : Heap) (n0 : Nat) (Z0 : n0 ≤ h0.size) (F : own_W Z h0 r0 r1 r2 r3 r4 cl_r4) (q0 : Int32) (hs43 : ¬ (q0 = (43 : Int32))) (hs45 : q0 = (45 : Int32)) :
    MetFree l (⟨"dragoman/Operator", "bySymbol", "(C)Ldragoman/Operator;"⟩ : MethodName) (head1 (Jvm.Cond.code (⟨"dragoman/Operator", "bySymbol", "(C)Ldragoman/Operator;"⟩ : MethodName) prog_26_method_4_code 5 (some (.object "dragoman/Operator")) :: ws) ({ frames := 0, cells := 0, slots := 0, locals := 0 } : Room)) (fun a U => a = #[(.int q0)] ∧ Z.Warmed39 U.vm ∧ U.heap = h0) (fun _ _ _ _ _ => True) (fun _ U o U' => ∃ v L, o = .returned v ∧ own_Q (.ref r1) h0 n0 v U'.heap L ∧ FrameEnd U o U' L ({ frames := 0, cells := 0, slots := 0, locals := 0 } : Room).cells ({ frames := 0, cells := 0, slots := 0, locals := 0 } : Room).slots) := by
  obtain ⟨S_r0, E_r0, S_r1, E_r1, S_r2, E_r2, S_r3, E_r3, S_r4, Ar_r4, Sz_r4, El_r4_0, F_r0_symbol, El_r4_1, F_r1_symbol, El_r4_2, F_r2_symbol, El_r4_3, F_r3_symbol, ne_r0_r1, ne_r0_r2, ne_r0_r3, ne_r1_r2, ne_r1_r3, ne_r2_r3⟩ := id F
  refine MetFree.of_bodySF (plainFor_of_name own_pn_Operator) hisR ?_
  intro p e s m args below meth c s₁ Bd hml0 hP hK
  obtain ⟨rfl, hZ, hh⟩ := hP
  have hx := Bd.exec
  have hby := Bd.bytes
  have hml : c.maxLocals = 5 := hml0
  have hown : s.vm.findClass "dragoman/Operator" = some m.cls := findClass_of_methodNamed Bd.named
  have X0 : Stand p l e ({ frames := 0, cells := 0, slots := 0, locals := 0 } : Room) s m #[(.int q0)] below meth c s₁ [] 0 0 := Stand.of_body Bd
  have e0 : s₁.heap = h0 := by rw [← hh, Bd.state]; rfl
  have N0 := Fr.nil n0
  have pre0 : ∀ t, Steps p.tables e below (s₁.setTop (mkF m 0 #[.val (.int q0), .unset, .unset, .unset, .unset] [])) t → Steps p.tables e below (s₁.setTop (entryFrame m #[(.int q0)] 5)) t := fun t k => castTop (own_ef1_I m q0) k
  obtain ⟨T1, X1, e1, st1⟩ := getS2 X0 hx hZ hown (host := "") (Or.inl (hw _ (List.mem_of_getElem? (i := 5) rfl))) Via.refl e0 S_r4 (g := (mkF m 0 #[.val (.int q0), .unset, .unset, .unset, .unset] [])) rfl (hb hby own_d1_0)
  obtain ⟨T2, X2, e2, st2⟩ := getF X1 hx hZ hown (host := "") (Or.inl (hw _ (List.mem_of_getElem? (i := 8) rfl))) Via.refl e1 F_r0_symbol (g := (mkF m 21 #[.val (.int q0), .val (.ref r4), .val (.int (4 : Int32)), .val (.int (0 : Int32)), .val (.ref r0)] [(.ref r0)])) rfl rfl (hb hby own_d1_21)
  obtain ⟨T3, X3, e3, st3⟩ := getF X2 hx hZ hown (host := "") (Or.inl (hw _ (List.mem_of_getElem? (i := 8) rfl))) Via.refl e2 F_r1_symbol (g := (mkF m 21 #[.val (.int q0), .val (.ref r4), .val (.int (4 : Int32)), .val (.int (1 : Int32)), .val (.ref r1)] [(.ref r1)])) rfl rfl (hb hby own_d1_21)
  obtain ⟨fs, hr, hrun, hended, hW, hsame⟩ := X3.leave (v := some (.ref r1)) (fun h => by rw [Bd.returns] at h; cases h)
  refine ⟨_, _, pre0 _ ?_, hrun, hended, _, _, rfl, ?_, ⟨_, rfl⟩, hW, hsame.mono (by decide) (by decide)⟩
  · show Steps p.tables e below (s₁.setTop (mkF m 0 #[.val (.int q0), .unset, .unset, .unset, .unset] [])) _
    refine st1 _ ?_
    show Steps p.tables e below (T1.setTop (mkF m 3 #[.val (.int q0), .unset, .unset, .unset, .unset] [(.ref r4)])) _
    refine XS.astoreN X1.here hx rfl (hb hby own_d1_3) rfl rfl (l' := #[.val (.int q0), .val (.ref r4), .unset, .unset, .unset]) rfl ?_
    show Steps p.tables e below (T1.setTop (mkF m 4 #[.val (.int q0), .val (.ref r4), .unset, .unset, .unset] [])) _
    refine XS.aloadN X1.here hx rfl (hb hby own_d1_4) rfl rfl ?_
    show Steps p.tables e below (T1.setTop (mkF m 5 #[.val (.int q0), .val (.ref r4), .unset, .unset, .unset] [(.ref r4)])) _
    refine X1.arraylength hx (by rw [e1]; exact Ar_r4.1) (State.isArrayOf_alike hZ.alike Ar_r4.2.1) (g := (mkF m 5 #[.val (.int q0), .val (.ref r4), .unset, .unset, .unset] [(.ref r4)])) rfl rfl (hb hby own_d1_5) _ ?_
    rw [len_of Sz_r4 (by decide)]
    show Steps p.tables e below (T1.setTop (mkF m 6 #[.val (.int q0), .val (.ref r4), .unset, .unset, .unset] [(.int (4 : Int32))])) _
    refine XS.istoreN X1.here hx rfl (hb hby own_d1_6) rfl (l' := #[.val (.int q0), .val (.ref r4), .val (.int (4 : Int32)), .unset, .unset]) rfl ?_
    show Steps p.tables e below (T1.setTop (mkF m 7 #[.val (.int q0), .val (.ref r4), .val (.int (4 : Int32)), .unset, .unset] [])) _
    refine XS.iconst X1.here hx rfl (hb hby own_d1_7) ?_
    show Steps p.tables e below (T1.setTop (mkF m 8 #[.val (.int q0), .val (.ref r4), .val (.int (4 : Int32)), .unset, .unset] [(.int (0 : Int32))])) _
    refine XS.istoreN X1.here hx rfl (hb hby own_d1_8) rfl (l' := #[.val (.int q0), .val (.ref r4), .val (.int (4 : Int32)), .val (.int (0 : Int32)), .unset]) rfl ?_
    show Steps p.tables e below (T1.setTop (mkF m 9 #[.val (.int q0), .val (.ref r4), .val (.int (4 : Int32)), .val (.int (0 : Int32)), .unset] [])) _
    refine XS.iloadN X1.here hx rfl (hb hby own_d1_9) rfl ?_
    show Steps p.tables e below (T1.setTop (mkF m 10 #[.val (.int q0), .val (.ref r4), .val (.int (4 : Int32)), .val (.int (0 : Int32)), .unset] [(.int (0 : Int32))])) _
    refine XS.iloadN X1.here hx rfl (hb hby own_d1_10) rfl ?_
    show Steps p.tables e below (T1.setTop (mkF m 11 #[.val (.int q0), .val (.ref r4), .val (.int (4 : Int32)), .val (.int (0 : Int32)), .unset] [(.int (4 : Int32)), (.int (0 : Int32))])) _
    refine XS.icmpNo X1.here hx rfl (hb hby own_d1_11) rfl (tlt (by decide : (0 : Int32) < (4 : Int32))).2.1 ?_
    show Steps p.tables e below (T1.setTop (mkF m 14 #[.val (.int q0), .val (.ref r4), .val (.int (4 : Int32)), .val (.int (0 : Int32)), .unset] [])) _
    refine XS.aloadN X1.here hx rfl (hb hby own_d1_14) rfl rfl ?_
    show Steps p.tables e below (T1.setTop (mkF m 15 #[.val (.int q0), .val (.ref r4), .val (.int (4 : Int32)), .val (.int (0 : Int32)), .unset] [(.ref r4)])) _
    refine XS.iloadN X1.here hx rfl (hb hby own_d1_15) rfl ?_
    show Steps p.tables e below (T1.setTop (mkF m 16 #[.val (.int q0), .val (.ref r4), .val (.int (4 : Int32)), .val (.int (0 : Int32)), .unset] [(.int (0 : Int32)), (.ref r4)])) _
    refine X1.aaload hx (j := (0 : Int32)) (v := (.ref r0)) (by rw [e1]; exact Ar_r4.1) (State.isArrayOf_alike hZ.alike Ar_r4.2.1) rfl Ar_r4.2.2 (inb_of Sz_r4 ⟨by decide, by decide⟩) El_r4_0 (g := (mkF m 16 #[.val (.int q0), .val (.ref r4), .val (.int (4 : Int32)), .val (.int (0 : Int32)), .unset] [(.int (0 : Int32)), (.ref r4)])) rfl rfl (hb hby own_d1_16) _ ?_
    show Steps p.tables e below (T1.setTop (mkF m 17 #[.val (.int q0), .val (.ref r4), .val (.int (4 : Int32)), .val (.int (0 : Int32)), .unset] [(.ref r0)])) _
    refine XS.astore X1.here hx rfl (hb hby own_d1_17) rfl rfl (l' := #[.val (.int q0), .val (.ref r4), .val (.int (4 : Int32)), .val (.int (0 : Int32)), .val (.ref r0)]) rfl ?_
    show Steps p.tables e below (T1.setTop (mkF m 19 #[.val (.int q0), .val (.ref r4), .val (.int (4 : Int32)), .val (.int (0 : Int32)), .val (.ref r0)] [])) _
    refine XS.aload X1.here hx rfl (hb hby own_d1_19) rfl rfl ?_
    show Steps p.tables e below (T1.setTop (mkF m 21 #[.val (.int q0), .val (.ref r4), .val (.int (4 : Int32)), .val (.int (0 : Int32)), .val (.ref r0)] [(.ref r0)])) _
    refine st2 _ ?_
    show Steps p.tables e below (T2.setTop (mkF m 24 #[.val (.int q0), .val (.ref r4), .val (.int (4 : Int32)), .val (.int (0 : Int32)), .val (.ref r0)] [(.int (43 : Int32))])) _
    refine XS.iloadN X2.here hx rfl (hb hby own_d1_24) rfl ?_
    show Steps p.tables e below (T2.setTop (mkF m 25 #[.val (.int q0), .val (.ref r4), .val (.int (4 : Int32)), .val (.int (0 : Int32)), .val (.ref r0)] [(.int q0), (.int (43 : Int32))])) _
    refine XS.icmpYes X2.here hx rfl (pc0 := 25) (pc' := 31) rfl (hb hby own_d1_25) rfl (feq ((Ne.symm hs43) : ¬ ((43 : Int32) = q0))).2 (by decide) (by decide) ?_
    show Steps p.tables e below (T2.setTop (mkF m 31 #[.val (.int q0), .val (.ref r4), .val (.int (4 : Int32)), .val (.int (0 : Int32)), .val (.ref r0)] [])) _
    refine XS.iinc X2.here hx rfl (hb hby own_d1_31) rfl (l' := #[.val (.int q0), .val (.ref r4), .val (.int (4 : Int32)), .val (.int ((0 : Int32) + (1 : Int32))), .val (.ref r0)]) rfl ?_
    show Steps p.tables e below (T2.setTop (mkF m 34 #[.val (.int q0), .val (.ref r4), .val (.int (4 : Int32)), .val (.int ((0 : Int32) + (1 : Int32))), .val (.ref r0)] [])) _
    rw [show ((0 : Int32) + (1 : Int32)) = (1 : Int32) from by decide]
    show Steps p.tables e below (T2.setTop (mkF m 34 #[.val (.int q0), .val (.ref r4), .val (.int (4 : Int32)), .val (.int (1 : Int32)), .val (.ref r0)] [])) _
    refine XS.goto X2.here hx rfl (pc0 := 34) (pc' := 9) rfl (hb hby own_d1_34) (by decide) (by decide) ?_
    show Steps p.tables e below (T2.setTop (mkF m 9 #[.val (.int q0), .val (.ref r4), .val (.int (4 : Int32)), .val (.int (1 : Int32)), .val (.ref r0)] [])) _
    refine XS.iloadN X2.here hx rfl (hb hby own_d1_9) rfl ?_
    show Steps p.tables e below (T2.setTop (mkF m 10 #[.val (.int q0), .val (.ref r4), .val (.int (4 : Int32)), .val (.int (1 : Int32)), .val (.ref r0)] [(.int (1 : Int32))])) _
    refine XS.iloadN X2.here hx rfl (hb hby own_d1_10) rfl ?_
    show Steps p.tables e below (T2.setTop (mkF m 11 #[.val (.int q0), .val (.ref r4), .val (.int (4 : Int32)), .val (.int (1 : Int32)), .val (.ref r0)] [(.int (4 : Int32)), (.int (1 : Int32))])) _
    refine XS.icmpNo X2.here hx rfl (hb hby own_d1_11) rfl (tlt (by decide : (1 : Int32) < (4 : Int32))).2.1 ?_
    show Steps p.tables e below (T2.setTop (mkF m 14 #[.val (.int q0), .val (.ref r4), .val (.int (4 : Int32)), .val (.int (1 : Int32)), .val (.ref r0)] [])) _
    refine XS.aloadN X2.here hx rfl (hb hby own_d1_14) rfl rfl ?_
    show Steps p.tables e below (T2.setTop (mkF m 15 #[.val (.int q0), .val (.ref r4), .val (.int (4 : Int32)), .val (.int (1 : Int32)), .val (.ref r0)] [(.ref r4)])) _
    refine XS.iloadN X2.here hx rfl (hb hby own_d1_15) rfl ?_
    show Steps p.tables e below (T2.setTop (mkF m 16 #[.val (.int q0), .val (.ref r4), .val (.int (4 : Int32)), .val (.int (1 : Int32)), .val (.ref r0)] [(.int (1 : Int32)), (.ref r4)])) _
    refine X2.aaload hx (j := (1 : Int32)) (v := (.ref r1)) (by rw [e2]; exact Ar_r4.1) (State.isArrayOf_alike hZ.alike Ar_r4.2.1) rfl Ar_r4.2.2 (inb_of Sz_r4 ⟨by decide, by decide⟩) El_r4_1 (g := (mkF m 16 #[.val (.int q0), .val (.ref r4), .val (.int (4 : Int32)), .val (.int (1 : Int32)), .val (.ref r0)] [(.int (1 : Int32)), (.ref r4)])) rfl rfl (hb hby own_d1_16) _ ?_
    show Steps p.tables e below (T2.setTop (mkF m 17 #[.val (.int q0), .val (.ref r4), .val (.int (4 : Int32)), .val (.int (1 : Int32)), .val (.ref r0)] [(.ref r1)])) _
    refine XS.astore X2.here hx rfl (hb hby own_d1_17) rfl rfl (l' := #[.val (.int q0), .val (.ref r4), .val (.int (4 : Int32)), .val (.int (1 : Int32)), .val (.ref r1)]) rfl ?_
    show Steps p.tables e below (T2.setTop (mkF m 19 #[.val (.int q0), .val (.ref r4), .val (.int (4 : Int32)), .val (.int (1 : Int32)), .val (.ref r1)] [])) _
    refine XS.aload X2.here hx rfl (hb hby own_d1_19) rfl rfl ?_
    show Steps p.tables e below (T2.setTop (mkF m 21 #[.val (.int q0), .val (.ref r4), .val (.int (4 : Int32)), .val (.int (1 : Int32)), .val (.ref r1)] [(.ref r1)])) _
    refine st3 _ ?_
    show Steps p.tables e below (T3.setTop (mkF m 24 #[.val (.int q0), .val (.ref r4), .val (.int (4 : Int32)), .val (.int (1 : Int32)), .val (.ref r1)] [(.int (45 : Int32))])) _
    refine XS.iloadN X3.here hx rfl (hb hby own_d1_24) rfl ?_
    show Steps p.tables e below (T3.setTop (mkF m 25 #[.val (.int q0), .val (.ref r4), .val (.int (4 : Int32)), .val (.int (1 : Int32)), .val (.ref r1)] [(.int q0), (.int (45 : Int32))])) _
    refine XS.icmpNo X3.here hx rfl (hb hby own_d1_25) rfl (teq (hs45.symm : (45 : Int32) = q0)).2 ?_
    show Steps p.tables e below (T3.setTop (mkF m 28 #[.val (.int q0), .val (.ref r4), .val (.int (4 : Int32)), .val (.int (1 : Int32)), .val (.ref r1)] [])) _
    refine XS.aload X3.here hx rfl (hb hby own_d1_28) rfl rfl ?_
    show Steps p.tables e below (T3.setTop (mkF m 30 #[.val (.int q0), .val (.ref r4), .val (.int (4 : Int32)), .val (.int (1 : Int32)), .val (.ref r1)] [(.ref r1)])) _
    jvm_step X3.here [X3.here.top, hx, (hb hby own_d1_30), X3.method', Bd.returns, Value.isRef, FieldType.isReference]
    first | (intro acts; rw [hr _ acts rfl rfl rfl]) | rw [hr _ _ rfl rfl rfl]
    exact Steps.refl _
  · exact ⟨rfl, N0, e3⟩
theorem own_d2_10 : decode method_3_code 10 = .ok (.iload_n 0, 1) := by decide +kernel
theorem own_d2_11 : decode method_3_code 11 = .ok (.bipush 45, 2) := by decide +kernel
theorem own_d2_13 : decode method_3_code 13 = .ok (.if_icmp .ne 7, 3) := by decide +kernel
theorem own_d2_16 : decode method_3_code 16 = .ok (.getstatic 23, 3) := by decide +kernel
theorem own_d2_19 : decode method_3_code 19 = .ok (.areturn, 1) := by decide +kernel
set_option maxRecDepth 65536 in
set_option maxHeartbeats 40000000 in
theorem own_r2_6 (l : Launch) (Z : State) (a0 : Array Value) (hw : ∀ d ∈ tables_1, d.before a0 Z = true) (ws : List Jvm.Cond) (r0 : Addr) (r1 : Addr) (r2 : Addr) (r3 : Addr) (r4 : Addr) (cl_r4 : Cell) (h0 : Heap) (n0 : Nat) (Z0 : n0 ≤ h0.size) (F : own_W Z h0 r0 r1 r2 r3 r4 cl_r4) (q0 : Int32) (hs43 : ¬ (q0 = (43 : Int32))) (hs45 : q0 = (45 : Int32)) :
    MetFree l (⟨"dragoman/OperatorBySymbolPinLaw", "expected", "(C)Ldragoman/Operator;"⟩ : MethodName) (head1 (Jvm.Cond.code (⟨"dragoman/OperatorBySymbolPinLaw", "expected", "(C)Ldragoman/Operator;"⟩ : MethodName) method_3_code 1 (some (.object "dragoman/Operator")) :: ws) ({ frames := 0, cells := 0, slots := 0, locals := 0 } : Room)) (fun a U => a = #[(.int q0)] ∧ Z.Warmed39 U.vm ∧ U.heap = h0) (fun _ _ _ _ _ => True) (fun _ U o U' => ∃ v L, o = .returned v ∧ own_Q (.ref r1) h0 n0 v U'.heap L ∧ FrameEnd U o U' L ({ frames := 0, cells := 0, slots := 0, locals := 0 } : Room).cells ({ frames := 0, cells := 0, slots := 0, locals := 0 } : Room).slots) := by
  obtain ⟨S_r0, E_r0, S_r1, E_r1, S_r2, E_r2, S_r3, E_r3, S_r4, Ar_r4, Sz_r4, El_r4_0, F_r0_symbol, El_r4_1, F_r1_symbol, El_r4_2, F_r2_symbol, El_r4_3, F_r3_symbol, ne_r0_r1, ne_r0_r2, ne_r0_r3, ne_r1_r2, ne_r1_r3, ne_r2_r3⟩ := id F
  refine MetFree.of_bodySF (plainFor_of_name own_pn_OperatorBySymbolPinLaw) hisR ?_
  intro p e s m args below meth c s₁ Bd hml0 hP hK
  obtain ⟨rfl, hZ, hh⟩ := hP
  have hx := Bd.exec
  have hby := Bd.bytes
  have hml : c.maxLocals = 1 := hml0
  have hown : s.vm.findClass "dragoman/OperatorBySymbolPinLaw" = some m.cls := findClass_of_methodNamed Bd.named
  have X0 : Stand p l e ({ frames := 0, cells := 0, slots := 0, locals := 0 } : Room) s m #[(.int q0)] below meth c s₁ [] 0 0 := Stand.of_body Bd
  have e0 : s₁.heap = h0 := by rw [← hh, Bd.state]; rfl
  have N0 := Fr.nil n0
  have pre0 : ∀ t, Steps p.tables e below (s₁.setTop (mkF m 0 #[.val (.int q0)] [])) t → Steps p.tables e below (s₁.setTop (entryFrame m #[(.int q0)] 1)) t := fun t k => castTop (own_ef2_I m q0) k
  obtain ⟨T1, X1, e1, st1⟩ := getS2 X0 hx hZ hown (host := "") (Or.inl (hw _ (List.mem_of_getElem? (i := 20) rfl))) Via.refl e0 S_r1 (g := (mkF m 16 #[.val (.int q0)] [])) rfl (hb hby own_d2_16)
  obtain ⟨fs, hr, hrun, hended, hW, hsame⟩ := X1.leave (v := some (.ref r1)) (fun h => by rw [Bd.returns] at h; cases h)
  refine ⟨_, _, pre0 _ ?_, hrun, hended, _, _, rfl, ?_, ⟨_, rfl⟩, hW, hsame.mono (by decide) (by decide)⟩
  · show Steps p.tables e below (s₁.setTop (mkF m 0 #[.val (.int q0)] [])) _
    refine XS.iloadN X0.here hx rfl (hb hby own_d2_0) rfl ?_
    show Steps p.tables e below (s₁.setTop (mkF m 1 #[.val (.int q0)] [(.int q0)])) _
    refine XS.bipush X0.here hx rfl (hb hby own_d2_1) ?_
    show Steps p.tables e below (s₁.setTop (mkF m 3 #[.val (.int q0)] [(.int (43 : Int32)), (.int q0)])) _
    refine XS.icmpYes X0.here hx rfl (pc0 := 3) (pc' := 10) rfl (hb hby own_d2_3) rfl (feq (hs43 : ¬ (q0 = (43 : Int32)))).2 (by decide) (by decide) ?_
    show Steps p.tables e below (s₁.setTop (mkF m 10 #[.val (.int q0)] [])) _
    refine XS.iloadN X0.here hx rfl (hb hby own_d2_10) rfl ?_
    show Steps p.tables e below (s₁.setTop (mkF m 11 #[.val (.int q0)] [(.int q0)])) _
    refine XS.bipush X0.here hx rfl (hb hby own_d2_11) ?_
    show Steps p.tables e below (s₁.setTop (mkF m 13 #[.val (.int q0)] [(.int (45 : Int32)), (.int q0)])) _
    refine XS.icmpNo X0.here hx rfl (hb hby own_d2_13) rfl (teq (hs45 : q0 = (45 : Int32))).2 ?_
    show Steps p.tables e below (s₁.setTop (mkF m 16 #[.val (.int q0)] [])) _
    refine st1 _ ?_
    show Steps p.tables e below (T1.setTop (mkF m 19 #[.val (.int q0)] [(.ref r1)])) _
    jvm_step X1.here [X1.here.top, hx, (hb hby own_d2_19), X1.method', Bd.returns, Value.isRef, FieldType.isReference]
    first | (intro acts; rw [hr _ acts rfl rfl rfl]) | rw [hr _ _ rfl rfl rfl]
    exact Steps.refl _
  · exact ⟨rfl, N0, e1⟩
set_option maxRecDepth 65536 in
set_option maxHeartbeats 40000000 in
theorem own_r0_m0q1 (l : Launch) (Z : State) (a0 : Array Value) (hw : ∀ d ∈ tables_1, d.before a0 Z = true) (ws : List Jvm.Cond) (r0 : Addr) (r1 : Addr) (r2 : Addr) (r3 : Addr) (r4 : Addr) (cl_r4 : Cell) (h0 : Heap) (n0 : Nat) (Z0 : n0 ≤ h0.size) (F : own_W Z h0 r0 r1 r2 r3 r4 cl_r4) (i0 : Int32) (i1 : Int32) (hm : (i1 &&& (3 : Int32)) = (0 : Int32)) (hs43 : ¬ (((i0 &&& (65535 : Int32)).toUInt32.toUInt16.toUInt32.toInt32) = (43 : Int32))) (hs45 : ((i0 &&& (65535 : Int32)).toUInt32.toUInt16.toUInt32.toInt32) = (45 : Int32)) :
    MetFree l x (head1 (Jvm.Cond.code x code maxLocals ret :: ws) room_1) (fun a U => a = #[(.int i0), (.int i1)] ∧ Z.Warmed39 U.vm ∧ U.heap = h0) (fun _ _ _ _ _ => True) (fun _ U o U' => ∃ v L, o = .returned v ∧ own_Q0 (.int (1 : Int32)) n0 v U'.heap L ∧ FrameEnd U o U' L room_1.cells room_1.slots) := by
  obtain ⟨S_r0, E_r0, S_r1, E_r1, S_r2, E_r2, S_r3, E_r3, S_r4, Ar_r4, Sz_r4, El_r4_0, F_r0_symbol, El_r4_1, F_r1_symbol, El_r4_2, F_r2_symbol, El_r4_3, F_r3_symbol, ne_r0_r1, ne_r0_r2, ne_r0_r3, ne_r1_r2, ne_r1_r3, ne_r2_r3⟩ := id F
  refine MetFree.of_bodySF (plainFor_of_name own_pn_OperatorBySymbolPinLaw) hisR ?_
  intro p e s m args below meth c s₁ Bd hml0 hP hK
  obtain ⟨rfl, hZ, hh⟩ := hP
  have hx := Bd.exec
  have hby := Bd.bytes
  have hml : c.maxLocals = 6 := hml0
  have hown : s.vm.findClass "dragoman/OperatorBySymbolPinLaw" = some m.cls := findClass_of_methodNamed Bd.named
  have X0 : Stand p l e room_1 s m #[(.int i0), (.int i1)] below meth c s₁ [] 0 0 := Stand.of_body Bd
  have e0 : s₁.heap = h0 := by rw [← hh, Bd.state]; rfl
  have N0 := Fr.nil n0
  have pre0 : ∀ t, Steps p.tables e below (s₁.setTop (mkF m 0 #[.val (.int i0), .val (.int i1), .unset, .unset, .unset, .unset] [])) t → Steps p.tables e below (s₁.setTop (entryFrame m #[(.int i0), (.int i1)] maxLocals)) t := fun t k => castTop (own_ef0_II m i0 i1) k
  obtain ⟨_, _, ⟨T1, L1, k1, n1⟩, -, X1, ⟨Lc1, hQ1, l1, y1, z1⟩, st1⟩ := Jvm.LawKit.callS X0 hx (y := (⟨"dragoman/Operator", "bySymbol", "(C)Ldragoman/Operator;"⟩ : MethodName)) hown (mvT hZ (hw _ (List.mem_of_getElem? (i := 1) rfl))) (mvT hZ (hw _ (List.mem_of_getElem? (i := 2) rfl))) (mvT hZ (hw _ (List.mem_of_getElem? (i := 3) rfl))) (mvT hZ (hw _ (List.mem_of_getElem? (i := 4) rfl))) (by decide) (backOf (W := 0) (own_r1_5 l Z a0 hw [] r0 r1 r2 r3 r4 cl_r4 h0 n0 Z0 F ((i0 &&& (65535 : Int32)).toUInt32.toUInt16.toUInt32.toInt32) hs43 hs45) hZ (hw _ (List.mem_of_getElem? (i := 4) rfl)) (hw _ (List.mem_of_getElem? (i := 3) rfl)) (by decide) (by decide)) (g := (mkF m 67 #[.val (.int i0), .val (.int i1), .val (.int (0 : Int32)), .val (.int ((i0 &&& (65535 : Int32)).toUInt32.toUInt16.toUInt32.toInt32)), .unset, .unset] [(.int ((i0 &&& (65535 : Int32)).toUInt32.toUInt16.toUInt32.toInt32))])) rfl (by rw [hml]; rfl) (argsL := [(.int ((i0 &&& (65535 : Int32)).toUInt32.toUInt16.toUInt32.toInt32))]) (rest := []) (lenOf own_pd0 rfl) rfl (by show 2 * 0 + _ ≤ _; exact Nat.le_of_eq rfl) (hb hby at_67) (fun _ _ => ⟨rfl, e0, (by decide : 0 + 0 ≤ _), (by decide : 0 + 0 ≤ _)⟩)
  dsimp only [Pt.U, Pt.locs, Pt.cells, Pt.slots] at X1 l1 y1 z1 st1 hQ1
  subst l1 y1 z1
  obtain ⟨rfl, N1q, e1⟩ := hQ1
  have N1 := Fr.app N0 N1q
  obtain ⟨_, _, ⟨T2, L2, k2, n2⟩, -, X2, ⟨Lc2, hQ2, l2, y2, z2⟩, st2⟩ := Jvm.LawKit.callS X1 hx (y := (⟨"dragoman/OperatorBySymbolPinLaw", "expected", "(C)Ldragoman/Operator;"⟩ : MethodName)) hown (mvT hZ (hw _ (List.mem_of_getElem? (i := 10) rfl))) (mvT hZ (hw _ (List.mem_of_getElem? (i := 11) rfl))) (mvT hZ (hw _ (List.mem_of_getElem? (i := 12) rfl))) (mvT hZ (hw _ (List.mem_of_getElem? (i := 13) rfl))) (by decide) (backOf (W := 0) (own_r2_6 l Z a0 hw [] r0 r1 r2 r3 r4 cl_r4 h0 n0 Z0 F ((i0 &&& (65535 : Int32)).toUInt32.toUInt16.toUInt32.toInt32) hs43 hs45) hZ (hw _ (List.mem_of_getElem? (i := 13) rfl)) (hw _ (List.mem_of_getElem? (i := 12) rfl)) (by decide) (by decide)) (g := (mkF m 73 #[.val (.int i0), .val (.int i1), .val (.int (0 : Int32)), .val (.int ((i0 &&& (65535 : Int32)).toUInt32.toUInt16.toUInt32.toInt32)), .val (.ref r1), .unset] [(.int ((i0 &&& (65535 : Int32)).toUInt32.toUInt16.toUInt32.toInt32))])) rfl (by rw [hml]; rfl) (argsL := [(.int ((i0 &&& (65535 : Int32)).toUInt32.toUInt16.toUInt32.toInt32))]) (rest := []) (lenOf own_pd0 rfl) rfl (by show 2 * 0 + _ ≤ _; exact Nat.le_of_eq rfl) (hb hby at_73) (fun _ _ => ⟨rfl, e1, (by decide : 0 + 0 ≤ _), (by decide : 0 + 0 ≤ _)⟩)
  dsimp only [Pt.U, Pt.locs, Pt.cells, Pt.slots] at X2 l2 y2 z2 st2 hQ2
  subst l2 y2 z2
  obtain ⟨rfl, N2q, e2⟩ := hQ2
  have N2 := Fr.app N1 N2q
  obtain ⟨fs, hr, hrun, hended, hW, hsame⟩ := X2.leave (v := some (.int (1 : Int32))) (fun h => by rw [Bd.returns] at h; cases h)
  refine ⟨_, _, pre0 _ ?_, hrun, hended, _, _, rfl, ?_, ⟨_, rfl⟩, hW, hsame.mono (by decide) (by decide)⟩
  · show Steps p.tables e below (s₁.setTop (mkF m 0 #[.val (.int i0), .val (.int i1), .unset, .unset, .unset, .unset] [])) _
    refine XS.iloadN X0.here hx rfl (hb hby at_0) rfl ?_
    show Steps p.tables e below (s₁.setTop (mkF m 1 #[.val (.int i0), .val (.int i1), .unset, .unset, .unset, .unset] [(.int i1)])) _
    refine XS.iconst X0.here hx rfl (hb hby at_1) ?_
    show Steps p.tables e below (s₁.setTop (mkF m 2 #[.val (.int i0), .val (.int i1), .unset, .unset, .unset, .unset] [(.int (3 : Int32)), (.int i1)])) _
    refine XS.iand X0.here hx rfl (hb hby at_2) rfl ?_
    show Steps p.tables e below (s₁.setTop (mkF m 3 #[.val (.int i0), .val (.int i1), .unset, .unset, .unset, .unset] [(.int (i1 &&& (3 : Int32)))])) _
    rw [hm]
    show Steps p.tables e below (s₁.setTop (mkF m 3 #[.val (.int i0), .val (.int i1), .unset, .unset, .unset, .unset] [(.int (0 : Int32))])) _
    refine XS.istoreN X0.here hx rfl (hb hby at_3) rfl (l' := #[.val (.int i0), .val (.int i1), .val (.int (0 : Int32)), .unset, .unset, .unset]) rfl ?_
    show Steps p.tables e below (s₁.setTop (mkF m 4 #[.val (.int i0), .val (.int i1), .val (.int (0 : Int32)), .unset, .unset, .unset] [])) _
    refine XS.iloadN X0.here hx rfl (hb hby at_4) rfl ?_
    show Steps p.tables e below (s₁.setTop (mkF m 5 #[.val (.int i0), .val (.int i1), .val (.int (0 : Int32)), .unset, .unset, .unset] [(.int (0 : Int32))])) _
    refine XS.ifNo X0.here hx rfl (hb hby at_5) rfl ((if0 _ _).trans (teq (by decide : (0 : Int32) = (0 : Int32))).2) ?_
    show Steps p.tables e below (s₁.setTop (mkF m 8 #[.val (.int i0), .val (.int i1), .val (.int (0 : Int32)), .unset, .unset, .unset] [])) _
    refine XS.iloadN X0.here hx rfl (hb hby at_8) rfl ?_
    show Steps p.tables e below (s₁.setTop (mkF m 9 #[.val (.int i0), .val (.int i1), .val (.int (0 : Int32)), .unset, .unset, .unset] [(.int i0)])) _
    refine X0.ldcInt hx hown (mvT hZ (hw _ (List.mem_of_getElem? (i := 18) rfl))) (g := (mkF m 9 #[.val (.int i0), .val (.int i1), .val (.int (0 : Int32)), .unset, .unset, .unset] [(.int i0)])) rfl (hb hby at_9) _ ?_
    show Steps p.tables e below (s₁.setTop (mkF m 11 #[.val (.int i0), .val (.int i1), .val (.int (0 : Int32)), .unset, .unset, .unset] [(.int (65535 : Int32)), (.int i0)])) _
    refine XS.iand X0.here hx rfl (hb hby at_11) rfl ?_
    show Steps p.tables e below (s₁.setTop (mkF m 12 #[.val (.int i0), .val (.int i1), .val (.int (0 : Int32)), .unset, .unset, .unset] [(.int (i0 &&& (65535 : Int32)))])) _
    refine XS.i2c X0.here hx rfl (hb hby at_12) rfl ?_
    show Steps p.tables e below (s₁.setTop (mkF m 13 #[.val (.int i0), .val (.int i1), .val (.int (0 : Int32)), .unset, .unset, .unset] [(.int ((i0 &&& (65535 : Int32)).toUInt32.toUInt16.toUInt32.toInt32))])) _
    refine XS.istoreN X0.here hx rfl (hb hby at_13) rfl (l' := #[.val (.int i0), .val (.int i1), .val (.int (0 : Int32)), .val (.int ((i0 &&& (65535 : Int32)).toUInt32.toUInt16.toUInt32.toInt32)), .unset, .unset]) rfl ?_
    show Steps p.tables e below (s₁.setTop (mkF m 14 #[.val (.int i0), .val (.int i1), .val (.int (0 : Int32)), .val (.int ((i0 &&& (65535 : Int32)).toUInt32.toUInt16.toUInt32.toInt32)), .unset, .unset] [])) _
    refine XS.goto X0.here hx rfl (pc0 := 14) (pc' := 66) rfl (hb hby at_14) (by decide) (by decide) ?_
    show Steps p.tables e below (s₁.setTop (mkF m 66 #[.val (.int i0), .val (.int i1), .val (.int (0 : Int32)), .val (.int ((i0 &&& (65535 : Int32)).toUInt32.toUInt16.toUInt32.toInt32)), .unset, .unset] [])) _
    refine XS.iloadN X0.here hx rfl (hb hby at_66) rfl ?_
    show Steps p.tables e below (s₁.setTop (mkF m 67 #[.val (.int i0), .val (.int i1), .val (.int (0 : Int32)), .val (.int ((i0 &&& (65535 : Int32)).toUInt32.toUInt16.toUInt32.toInt32)), .unset, .unset] [(.int ((i0 &&& (65535 : Int32)).toUInt32.toUInt16.toUInt32.toInt32))])) _
    refine st1 _ ?_
    show Steps p.tables e below (T1.setTop (mkF m 70 #[.val (.int i0), .val (.int i1), .val (.int (0 : Int32)), .val (.int ((i0 &&& (65535 : Int32)).toUInt32.toUInt16.toUInt32.toInt32)), .unset, .unset] [(.ref r1)])) _
    refine XS.astore X1.here hx rfl (hb hby at_70) rfl rfl (l' := #[.val (.int i0), .val (.int i1), .val (.int (0 : Int32)), .val (.int ((i0 &&& (65535 : Int32)).toUInt32.toUInt16.toUInt32.toInt32)), .val (.ref r1), .unset]) rfl ?_
    show Steps p.tables e below (T1.setTop (mkF m 72 #[.val (.int i0), .val (.int i1), .val (.int (0 : Int32)), .val (.int ((i0 &&& (65535 : Int32)).toUInt32.toUInt16.toUInt32.toInt32)), .val (.ref r1), .unset] [])) _
    refine XS.iloadN X1.here hx rfl (hb hby at_72) rfl ?_
    show Steps p.tables e below (T1.setTop (mkF m 73 #[.val (.int i0), .val (.int i1), .val (.int (0 : Int32)), .val (.int ((i0 &&& (65535 : Int32)).toUInt32.toUInt16.toUInt32.toInt32)), .val (.ref r1), .unset] [(.int ((i0 &&& (65535 : Int32)).toUInt32.toUInt16.toUInt32.toInt32))])) _
    refine st2 _ ?_
    show Steps p.tables e below (T2.setTop (mkF m 76 #[.val (.int i0), .val (.int i1), .val (.int (0 : Int32)), .val (.int ((i0 &&& (65535 : Int32)).toUInt32.toUInt16.toUInt32.toInt32)), .val (.ref r1), .unset] [(.ref r1)])) _
    refine XS.astore X2.here hx rfl (hb hby at_76) rfl rfl (l' := #[.val (.int i0), .val (.int i1), .val (.int (0 : Int32)), .val (.int ((i0 &&& (65535 : Int32)).toUInt32.toUInt16.toUInt32.toInt32)), .val (.ref r1), .val (.ref r1)]) rfl ?_
    show Steps p.tables e below (T2.setTop (mkF m 78 #[.val (.int i0), .val (.int i1), .val (.int (0 : Int32)), .val (.int ((i0 &&& (65535 : Int32)).toUInt32.toUInt16.toUInt32.toInt32)), .val (.ref r1), .val (.ref r1)] [])) _
    refine XS.aload X2.here hx rfl (hb hby at_78) rfl rfl ?_
    show Steps p.tables e below (T2.setTop (mkF m 80 #[.val (.int i0), .val (.int i1), .val (.int (0 : Int32)), .val (.int ((i0 &&& (65535 : Int32)).toUInt32.toUInt16.toUInt32.toInt32)), .val (.ref r1), .val (.ref r1)] [(.ref r1)])) _
    refine XS.aload X2.here hx rfl (hb hby at_80) rfl rfl ?_
    show Steps p.tables e below (T2.setTop (mkF m 82 #[.val (.int i0), .val (.int i1), .val (.int (0 : Int32)), .val (.int ((i0 &&& (65535 : Int32)).toUInt32.toUInt16.toUInt32.toInt32)), .val (.ref r1), .val (.ref r1)] [(.ref r1), (.ref r1)])) _
    refine Jvm.RoadKit.acmp (g := (mkF m 82 #[.val (.int i0), .val (.int i1), .val (.int (0 : Int32)), .val (.int ((i0 &&& (65535 : Int32)).toUInt32.toUInt16.toUInt32.toInt32)), .val (.ref r1), .val (.ref r1)] [(.ref r1), (.ref r1)])) X2 hx rfl rfl rfl (pc0 := 82) (pc' := 85) (same := true) rfl (hb hby at_82) rfl (decide_eq_true rfl) (by decide) (by decide) ?_
    show Steps p.tables e below (T2.setTop (mkF m 85 #[.val (.int i0), .val (.int i1), .val (.int (0 : Int32)), .val (.int ((i0 &&& (65535 : Int32)).toUInt32.toUInt16.toUInt32.toInt32)), .val (.ref r1), .val (.ref r1)] [])) _
    refine XS.iconst X2.here hx rfl (hb hby at_85) ?_
    show Steps p.tables e below (T2.setTop (mkF m 86 #[.val (.int i0), .val (.int i1), .val (.int (0 : Int32)), .val (.int ((i0 &&& (65535 : Int32)).toUInt32.toUInt16.toUInt32.toInt32)), .val (.ref r1), .val (.ref r1)] [(.int (1 : Int32))])) _
    refine XS.goto X2.here hx rfl (pc0 := 86) (pc' := 90) rfl (hb hby at_86) (by decide) (by decide) ?_
    show Steps p.tables e below (T2.setTop (mkF m 90 #[.val (.int i0), .val (.int i1), .val (.int (0 : Int32)), .val (.int ((i0 &&& (65535 : Int32)).toUInt32.toUInt16.toUInt32.toInt32)), .val (.ref r1), .val (.ref r1)] [(.int (1 : Int32))])) _
    exact retN X2 hx (t := .boolean) Bd.returns (by simp) (hb hby at_90) hr
  · exact ⟨rfl, N2⟩
set_option maxRecDepth 65536 in
set_option maxHeartbeats 40000000 in
theorem own_r1_8 (l : Launch) (Z : State) (a0 : Array Value) (hw : ∀ d ∈ tables_1, d.before a0 Z = true) (ws : List Jvm.Cond) (r0 : Addr) (r1 : Addr) (r2 : Addr) (r3 : Addr) (r4 : Addr) (cl_r4 : Cell) (h0 : Heap) (n0 : Nat) (Z0 : n0 ≤ h0.size) (F : own_W Z h0 r0 r1 r2 r3 r4 cl_r4) (q0 : Int32) (hs43 : ¬ (q0 = (43 : Int32))) (hs45 : ¬ (q0 = (45 : Int32))) (hs42 : q0 = (42 : Int32)) :
    MetFree l (⟨"dragoman/Operator", "bySymbol", "(C)Ldragoman/Operator;"⟩ : MethodName) (head1 (Jvm.Cond.code (⟨"dragoman/Operator", "bySymbol", "(C)Ldragoman/Operator;"⟩ : MethodName) prog_26_method_4_code 5 (some (.object "dragoman/Operator")) :: ws) ({ frames := 0, cells := 0, slots := 0, locals := 0 } : Room)) (fun a U => a = #[(.int q0)] ∧ Z.Warmed39 U.vm ∧ U.heap = h0) (fun _ _ _ _ _ => True) (fun _ U o U' => ∃ v L, o = .returned v ∧ own_Q (.ref r2) h0 n0 v U'.heap L ∧ FrameEnd U o U' L ({ frames := 0, cells := 0, slots := 0, locals := 0 } : Room).cells ({ frames := 0, cells := 0, slots := 0, locals := 0 } : Room).slots) := by
  obtain ⟨S_r0, E_r0, S_r1, E_r1, S_r2, E_r2, S_r3, E_r3, S_r4, Ar_r4, Sz_r4, El_r4_0, F_r0_symbol, El_r4_1, F_r1_symbol, El_r4_2, F_r2_symbol, El_r4_3, F_r3_symbol, ne_r0_r1, ne_r0_r2, ne_r0_r3, ne_r1_r2, ne_r1_r3, ne_r2_r3⟩ := id F
  refine MetFree.of_bodySF (plainFor_of_name own_pn_Operator) hisR ?_
  intro p e s m args below meth c s₁ Bd hml0 hP hK
  obtain ⟨rfl, hZ, hh⟩ := hP
  have hx := Bd.exec
  have hby := Bd.bytes
  have hml : c.maxLocals = 5 := hml0
  have hown : s.vm.findClass "dragoman/Operator" = some m.cls := findClass_of_methodNamed Bd.named
  have X0 : Stand p l e ({ frames := 0, cells := 0, slots := 0, locals := 0 } : Room) s m #[(.int q0)] below meth c s₁ [] 0 0 := Stand.of_body Bd
  have e0 : s₁.heap = h0 := by rw [← hh, Bd.state]; rfl
  have N0 := Fr.nil n0
  have pre0 : ∀ t, Steps p.tables e below (s₁.setTop (mkF m 0 #[.val (.int q0), .unset, .unset, .unset, .unset] [])) t → Steps p.tables e below (s₁.setTop (entryFrame m #[(.int q0)] 5)) t := fun t k => castTop (own_ef1_I m q0) k
  obtain ⟨T1, X1, e1, st1⟩ := getS2 X0 hx hZ hown (host := "") (Or.inl (hw _ (List.mem_of_getElem? (i := 5) rfl))) Via.refl e0 S_r4 (g := (mkF m 0 #[.val (.int q0), .unset, .unset, .unset, .unset] [])) rfl (hb hby own_d1_0)
  obtain ⟨T2, X2, e2, st2⟩ := getF X1 hx hZ hown (host := "") (Or.inl (hw _ (List.mem_of_getElem? (i := 8) rfl))) Via.refl e1 F_r0_symbol (g := (mkF m 21 #[.val (.int q0), .val (.ref r4), .val (.int (4 : Int32)), .val (.int (0 : Int32)), .val (.ref r0)] [(.ref r0)])) rfl rfl (hb hby own_d1_21)
  obtain ⟨T3, X3, e3, st3⟩ := getF X2 hx hZ hown (host := "") (Or.inl (hw _ (List.mem_of_getElem? (i := 8) rfl))) Via.refl e2 F_r1_symbol (g := (mkF m 21 #[.val (.int q0), .val (.ref r4), .val (.int (4 : Int32)), .val (.int (1 : Int32)), .val (.ref r1)] [(.ref r1)])) rfl rfl (hb hby own_d1_21)
  obtain ⟨T4, X4, e4, st4⟩ := getF X3 hx hZ hown (host := "") (Or.inl (hw _ (List.mem_of_getElem? (i := 8) rfl))) Via.refl e3 F_r2_symbol (g := (mkF m 21 #[.val (.int q0), .val (.ref r4), .val (.int (4 : Int32)), .val (.int (2 : Int32)), .val (.ref r2)] [(.ref r2)])) rfl rfl (hb hby own_d1_21)
  obtain ⟨fs, hr, hrun, hended, hW, hsame⟩ := X4.leave (v := some (.ref r2)) (fun h => by rw [Bd.returns] at h; cases h)
  refine ⟨_, _, pre0 _ ?_, hrun, hended, _, _, rfl, ?_, ⟨_, rfl⟩, hW, hsame.mono (by decide) (by decide)⟩
  · show Steps p.tables e below (s₁.setTop (mkF m 0 #[.val (.int q0), .unset, .unset, .unset, .unset] [])) _
    refine st1 _ ?_
    show Steps p.tables e below (T1.setTop (mkF m 3 #[.val (.int q0), .unset, .unset, .unset, .unset] [(.ref r4)])) _
    refine XS.astoreN X1.here hx rfl (hb hby own_d1_3) rfl rfl (l' := #[.val (.int q0), .val (.ref r4), .unset, .unset, .unset]) rfl ?_
    show Steps p.tables e below (T1.setTop (mkF m 4 #[.val (.int q0), .val (.ref r4), .unset, .unset, .unset] [])) _
    refine XS.aloadN X1.here hx rfl (hb hby own_d1_4) rfl rfl ?_
    show Steps p.tables e below (T1.setTop (mkF m 5 #[.val (.int q0), .val (.ref r4), .unset, .unset, .unset] [(.ref r4)])) _
    refine X1.arraylength hx (by rw [e1]; exact Ar_r4.1) (State.isArrayOf_alike hZ.alike Ar_r4.2.1) (g := (mkF m 5 #[.val (.int q0), .val (.ref r4), .unset, .unset, .unset] [(.ref r4)])) rfl rfl (hb hby own_d1_5) _ ?_
    rw [len_of Sz_r4 (by decide)]
    show Steps p.tables e below (T1.setTop (mkF m 6 #[.val (.int q0), .val (.ref r4), .unset, .unset, .unset] [(.int (4 : Int32))])) _
    refine XS.istoreN X1.here hx rfl (hb hby own_d1_6) rfl (l' := #[.val (.int q0), .val (.ref r4), .val (.int (4 : Int32)), .unset, .unset]) rfl ?_
    show Steps p.tables e below (T1.setTop (mkF m 7 #[.val (.int q0), .val (.ref r4), .val (.int (4 : Int32)), .unset, .unset] [])) _
    refine XS.iconst X1.here hx rfl (hb hby own_d1_7) ?_
    show Steps p.tables e below (T1.setTop (mkF m 8 #[.val (.int q0), .val (.ref r4), .val (.int (4 : Int32)), .unset, .unset] [(.int (0 : Int32))])) _
    refine XS.istoreN X1.here hx rfl (hb hby own_d1_8) rfl (l' := #[.val (.int q0), .val (.ref r4), .val (.int (4 : Int32)), .val (.int (0 : Int32)), .unset]) rfl ?_
    show Steps p.tables e below (T1.setTop (mkF m 9 #[.val (.int q0), .val (.ref r4), .val (.int (4 : Int32)), .val (.int (0 : Int32)), .unset] [])) _
    refine XS.iloadN X1.here hx rfl (hb hby own_d1_9) rfl ?_
    show Steps p.tables e below (T1.setTop (mkF m 10 #[.val (.int q0), .val (.ref r4), .val (.int (4 : Int32)), .val (.int (0 : Int32)), .unset] [(.int (0 : Int32))])) _
    refine XS.iloadN X1.here hx rfl (hb hby own_d1_10) rfl ?_
    show Steps p.tables e below (T1.setTop (mkF m 11 #[.val (.int q0), .val (.ref r4), .val (.int (4 : Int32)), .val (.int (0 : Int32)), .unset] [(.int (4 : Int32)), (.int (0 : Int32))])) _
    refine XS.icmpNo X1.here hx rfl (hb hby own_d1_11) rfl (tlt (by decide : (0 : Int32) < (4 : Int32))).2.1 ?_
    show Steps p.tables e below (T1.setTop (mkF m 14 #[.val (.int q0), .val (.ref r4), .val (.int (4 : Int32)), .val (.int (0 : Int32)), .unset] [])) _
    refine XS.aloadN X1.here hx rfl (hb hby own_d1_14) rfl rfl ?_
    show Steps p.tables e below (T1.setTop (mkF m 15 #[.val (.int q0), .val (.ref r4), .val (.int (4 : Int32)), .val (.int (0 : Int32)), .unset] [(.ref r4)])) _
    refine XS.iloadN X1.here hx rfl (hb hby own_d1_15) rfl ?_
    show Steps p.tables e below (T1.setTop (mkF m 16 #[.val (.int q0), .val (.ref r4), .val (.int (4 : Int32)), .val (.int (0 : Int32)), .unset] [(.int (0 : Int32)), (.ref r4)])) _
    refine X1.aaload hx (j := (0 : Int32)) (v := (.ref r0)) (by rw [e1]; exact Ar_r4.1) (State.isArrayOf_alike hZ.alike Ar_r4.2.1) rfl Ar_r4.2.2 (inb_of Sz_r4 ⟨by decide, by decide⟩) El_r4_0 (g := (mkF m 16 #[.val (.int q0), .val (.ref r4), .val (.int (4 : Int32)), .val (.int (0 : Int32)), .unset] [(.int (0 : Int32)), (.ref r4)])) rfl rfl (hb hby own_d1_16) _ ?_
    show Steps p.tables e below (T1.setTop (mkF m 17 #[.val (.int q0), .val (.ref r4), .val (.int (4 : Int32)), .val (.int (0 : Int32)), .unset] [(.ref r0)])) _
    refine XS.astore X1.here hx rfl (hb hby own_d1_17) rfl rfl (l' := #[.val (.int q0), .val (.ref r4), .val (.int (4 : Int32)), .val (.int (0 : Int32)), .val (.ref r0)]) rfl ?_
    show Steps p.tables e below (T1.setTop (mkF m 19 #[.val (.int q0), .val (.ref r4), .val (.int (4 : Int32)), .val (.int (0 : Int32)), .val (.ref r0)] [])) _
    refine XS.aload X1.here hx rfl (hb hby own_d1_19) rfl rfl ?_
    show Steps p.tables e below (T1.setTop (mkF m 21 #[.val (.int q0), .val (.ref r4), .val (.int (4 : Int32)), .val (.int (0 : Int32)), .val (.ref r0)] [(.ref r0)])) _
    refine st2 _ ?_
    show Steps p.tables e below (T2.setTop (mkF m 24 #[.val (.int q0), .val (.ref r4), .val (.int (4 : Int32)), .val (.int (0 : Int32)), .val (.ref r0)] [(.int (43 : Int32))])) _
    refine XS.iloadN X2.here hx rfl (hb hby own_d1_24) rfl ?_
    show Steps p.tables e below (T2.setTop (mkF m 25 #[.val (.int q0), .val (.ref r4), .val (.int (4 : Int32)), .val (.int (0 : Int32)), .val (.ref r0)] [(.int q0), (.int (43 : Int32))])) _
    refine XS.icmpYes X2.here hx rfl (pc0 := 25) (pc' := 31) rfl (hb hby own_d1_25) rfl (feq ((Ne.symm hs43) : ¬ ((43 : Int32) = q0))).2 (by decide) (by decide) ?_
    show Steps p.tables e below (T2.setTop (mkF m 31 #[.val (.int q0), .val (.ref r4), .val (.int (4 : Int32)), .val (.int (0 : Int32)), .val (.ref r0)] [])) _
    refine XS.iinc X2.here hx rfl (hb hby own_d1_31) rfl (l' := #[.val (.int q0), .val (.ref r4), .val (.int (4 : Int32)), .val (.int ((0 : Int32) + (1 : Int32))), .val (.ref r0)]) rfl ?_
    show Steps p.tables e below (T2.setTop (mkF m 34 #[.val (.int q0), .val (.ref r4), .val (.int (4 : Int32)), .val (.int ((0 : Int32) + (1 : Int32))), .val (.ref r0)] [])) _
    rw [show ((0 : Int32) + (1 : Int32)) = (1 : Int32) from by decide]
    show Steps p.tables e below (T2.setTop (mkF m 34 #[.val (.int q0), .val (.ref r4), .val (.int (4 : Int32)), .val (.int (1 : Int32)), .val (.ref r0)] [])) _
    refine XS.goto X2.here hx rfl (pc0 := 34) (pc' := 9) rfl (hb hby own_d1_34) (by decide) (by decide) ?_
    show Steps p.tables e below (T2.setTop (mkF m 9 #[.val (.int q0), .val (.ref r4), .val (.int (4 : Int32)), .val (.int (1 : Int32)), .val (.ref r0)] [])) _
    refine XS.iloadN X2.here hx rfl (hb hby own_d1_9) rfl ?_
    show Steps p.tables e below (T2.setTop (mkF m 10 #[.val (.int q0), .val (.ref r4), .val (.int (4 : Int32)), .val (.int (1 : Int32)), .val (.ref r0)] [(.int (1 : Int32))])) _
    refine XS.iloadN X2.here hx rfl (hb hby own_d1_10) rfl ?_
    show Steps p.tables e below (T2.setTop (mkF m 11 #[.val (.int q0), .val (.ref r4), .val (.int (4 : Int32)), .val (.int (1 : Int32)), .val (.ref r0)] [(.int (4 : Int32)), (.int (1 : Int32))])) _
    refine XS.icmpNo X2.here hx rfl (hb hby own_d1_11) rfl (tlt (by decide : (1 : Int32) < (4 : Int32))).2.1 ?_
    show Steps p.tables e below (T2.setTop (mkF m 14 #[.val (.int q0), .val (.ref r4), .val (.int (4 : Int32)), .val (.int (1 : Int32)), .val (.ref r0)] [])) _
    refine XS.aloadN X2.here hx rfl (hb hby own_d1_14) rfl rfl ?_
    show Steps p.tables e below (T2.setTop (mkF m 15 #[.val (.int q0), .val (.ref r4), .val (.int (4 : Int32)), .val (.int (1 : Int32)), .val (.ref r0)] [(.ref r4)])) _
    refine XS.iloadN X2.here hx rfl (hb hby own_d1_15) rfl ?_
    show Steps p.tables e below (T2.setTop (mkF m 16 #[.val (.int q0), .val (.ref r4), .val (.int (4 : Int32)), .val (.int (1 : Int32)), .val (.ref r0)] [(.int (1 : Int32)), (.ref r4)])) _
    refine X2.aaload hx (j := (1 : Int32)) (v := (.ref r1)) (by rw [e2]; exact Ar_r4.1) (State.isArrayOf_alike hZ.alike Ar_r4.2.1) rfl Ar_r4.2.2 (inb_of Sz_r4 ⟨by decide, by decide⟩) El_r4_1 (g := (mkF m 16 #[.val (.int q0), .val (.ref r4), .val (.int (4 : Int32)), .val (.int (1 : Int32)), .val (.ref r0)] [(.int (1 : Int32)), (.ref r4)])) rfl rfl (hb hby own_d1_16) _ ?_
    show Steps p.tables e below (T2.setTop (mkF m 17 #[.val (.int q0), .val (.ref r4), .val (.int (4 : Int32)), .val (.int (1 : Int32)), .val (.ref r0)] [(.ref r1)])) _
    refine XS.astore X2.here hx rfl (hb hby own_d1_17) rfl rfl (l' := #[.val (.int q0), .val (.ref r4), .val (.int (4 : Int32)), .val (.int (1 : Int32)), .val (.ref r1)]) rfl ?_
    show Steps p.tables e below (T2.setTop (mkF m 19 #[.val (.int q0), .val (.ref r4), .val (.int (4 : Int32)), .val (.int (1 : Int32)), .val (.ref r1)] [])) _
    refine XS.aload X2.here hx rfl (hb hby own_d1_19) rfl rfl ?_
    show Steps p.tables e below (T2.setTop (mkF m 21 #[.val (.int q0), .val (.ref r4), .val (.int (4 : Int32)), .val (.int (1 : Int32)), .val (.ref r1)] [(.ref r1)])) _
    refine st3 _ ?_
    show Steps p.tables e below (T3.setTop (mkF m 24 #[.val (.int q0), .val (.ref r4), .val (.int (4 : Int32)), .val (.int (1 : Int32)), .val (.ref r1)] [(.int (45 : Int32))])) _
    refine XS.iloadN X3.here hx rfl (hb hby own_d1_24) rfl ?_
    show Steps p.tables e below (T3.setTop (mkF m 25 #[.val (.int q0), .val (.ref r4), .val (.int (4 : Int32)), .val (.int (1 : Int32)), .val (.ref r1)] [(.int q0), (.int (45 : Int32))])) _
    refine XS.icmpYes X3.here hx rfl (pc0 := 25) (pc' := 31) rfl (hb hby own_d1_25) rfl (feq ((Ne.symm hs45) : ¬ ((45 : Int32) = q0))).2 (by decide) (by decide) ?_
    show Steps p.tables e below (T3.setTop (mkF m 31 #[.val (.int q0), .val (.ref r4), .val (.int (4 : Int32)), .val (.int (1 : Int32)), .val (.ref r1)] [])) _
    refine XS.iinc X3.here hx rfl (hb hby own_d1_31) rfl (l' := #[.val (.int q0), .val (.ref r4), .val (.int (4 : Int32)), .val (.int ((1 : Int32) + (1 : Int32))), .val (.ref r1)]) rfl ?_
    show Steps p.tables e below (T3.setTop (mkF m 34 #[.val (.int q0), .val (.ref r4), .val (.int (4 : Int32)), .val (.int ((1 : Int32) + (1 : Int32))), .val (.ref r1)] [])) _
    rw [show ((1 : Int32) + (1 : Int32)) = (2 : Int32) from by decide]
    show Steps p.tables e below (T3.setTop (mkF m 34 #[.val (.int q0), .val (.ref r4), .val (.int (4 : Int32)), .val (.int (2 : Int32)), .val (.ref r1)] [])) _
    refine XS.goto X3.here hx rfl (pc0 := 34) (pc' := 9) rfl (hb hby own_d1_34) (by decide) (by decide) ?_
    show Steps p.tables e below (T3.setTop (mkF m 9 #[.val (.int q0), .val (.ref r4), .val (.int (4 : Int32)), .val (.int (2 : Int32)), .val (.ref r1)] [])) _
    refine XS.iloadN X3.here hx rfl (hb hby own_d1_9) rfl ?_
    show Steps p.tables e below (T3.setTop (mkF m 10 #[.val (.int q0), .val (.ref r4), .val (.int (4 : Int32)), .val (.int (2 : Int32)), .val (.ref r1)] [(.int (2 : Int32))])) _
    refine XS.iloadN X3.here hx rfl (hb hby own_d1_10) rfl ?_
    show Steps p.tables e below (T3.setTop (mkF m 11 #[.val (.int q0), .val (.ref r4), .val (.int (4 : Int32)), .val (.int (2 : Int32)), .val (.ref r1)] [(.int (4 : Int32)), (.int (2 : Int32))])) _
    refine XS.icmpNo X3.here hx rfl (hb hby own_d1_11) rfl (tlt (by decide : (2 : Int32) < (4 : Int32))).2.1 ?_
    show Steps p.tables e below (T3.setTop (mkF m 14 #[.val (.int q0), .val (.ref r4), .val (.int (4 : Int32)), .val (.int (2 : Int32)), .val (.ref r1)] [])) _
    refine XS.aloadN X3.here hx rfl (hb hby own_d1_14) rfl rfl ?_
    show Steps p.tables e below (T3.setTop (mkF m 15 #[.val (.int q0), .val (.ref r4), .val (.int (4 : Int32)), .val (.int (2 : Int32)), .val (.ref r1)] [(.ref r4)])) _
    refine XS.iloadN X3.here hx rfl (hb hby own_d1_15) rfl ?_
    show Steps p.tables e below (T3.setTop (mkF m 16 #[.val (.int q0), .val (.ref r4), .val (.int (4 : Int32)), .val (.int (2 : Int32)), .val (.ref r1)] [(.int (2 : Int32)), (.ref r4)])) _
    refine X3.aaload hx (j := (2 : Int32)) (v := (.ref r2)) (by rw [e3]; exact Ar_r4.1) (State.isArrayOf_alike hZ.alike Ar_r4.2.1) rfl Ar_r4.2.2 (inb_of Sz_r4 ⟨by decide, by decide⟩) El_r4_2 (g := (mkF m 16 #[.val (.int q0), .val (.ref r4), .val (.int (4 : Int32)), .val (.int (2 : Int32)), .val (.ref r1)] [(.int (2 : Int32)), (.ref r4)])) rfl rfl (hb hby own_d1_16) _ ?_
    show Steps p.tables e below (T3.setTop (mkF m 17 #[.val (.int q0), .val (.ref r4), .val (.int (4 : Int32)), .val (.int (2 : Int32)), .val (.ref r1)] [(.ref r2)])) _
    refine XS.astore X3.here hx rfl (hb hby own_d1_17) rfl rfl (l' := #[.val (.int q0), .val (.ref r4), .val (.int (4 : Int32)), .val (.int (2 : Int32)), .val (.ref r2)]) rfl ?_
    show Steps p.tables e below (T3.setTop (mkF m 19 #[.val (.int q0), .val (.ref r4), .val (.int (4 : Int32)), .val (.int (2 : Int32)), .val (.ref r2)] [])) _
    refine XS.aload X3.here hx rfl (hb hby own_d1_19) rfl rfl ?_
    show Steps p.tables e below (T3.setTop (mkF m 21 #[.val (.int q0), .val (.ref r4), .val (.int (4 : Int32)), .val (.int (2 : Int32)), .val (.ref r2)] [(.ref r2)])) _
    refine st4 _ ?_
    show Steps p.tables e below (T4.setTop (mkF m 24 #[.val (.int q0), .val (.ref r4), .val (.int (4 : Int32)), .val (.int (2 : Int32)), .val (.ref r2)] [(.int (42 : Int32))])) _
    refine XS.iloadN X4.here hx rfl (hb hby own_d1_24) rfl ?_
    show Steps p.tables e below (T4.setTop (mkF m 25 #[.val (.int q0), .val (.ref r4), .val (.int (4 : Int32)), .val (.int (2 : Int32)), .val (.ref r2)] [(.int q0), (.int (42 : Int32))])) _
    refine XS.icmpNo X4.here hx rfl (hb hby own_d1_25) rfl (teq (hs42.symm : (42 : Int32) = q0)).2 ?_
    show Steps p.tables e below (T4.setTop (mkF m 28 #[.val (.int q0), .val (.ref r4), .val (.int (4 : Int32)), .val (.int (2 : Int32)), .val (.ref r2)] [])) _
    refine XS.aload X4.here hx rfl (hb hby own_d1_28) rfl rfl ?_
    show Steps p.tables e below (T4.setTop (mkF m 30 #[.val (.int q0), .val (.ref r4), .val (.int (4 : Int32)), .val (.int (2 : Int32)), .val (.ref r2)] [(.ref r2)])) _
    jvm_step X4.here [X4.here.top, hx, (hb hby own_d1_30), X4.method', Bd.returns, Value.isRef, FieldType.isReference]
    first | (intro acts; rw [hr _ acts rfl rfl rfl]) | rw [hr _ _ rfl rfl rfl]
    exact Steps.refl _
  · exact ⟨rfl, N0, e4⟩
theorem own_d2_20 : decode method_3_code 20 = .ok (.iload_n 0, 1) := by decide +kernel
theorem own_d2_21 : decode method_3_code 21 = .ok (.bipush 42, 2) := by decide +kernel
theorem own_d2_23 : decode method_3_code 23 = .ok (.if_icmp .ne 7, 3) := by decide +kernel
theorem own_d2_26 : decode method_3_code 26 = .ok (.getstatic 26, 3) := by decide +kernel
theorem own_d2_29 : decode method_3_code 29 = .ok (.areturn, 1) := by decide +kernel
set_option maxRecDepth 65536 in
set_option maxHeartbeats 40000000 in
theorem own_r2_9 (l : Launch) (Z : State) (a0 : Array Value) (hw : ∀ d ∈ tables_1, d.before a0 Z = true) (ws : List Jvm.Cond) (r0 : Addr) (r1 : Addr) (r2 : Addr) (r3 : Addr) (r4 : Addr) (cl_r4 : Cell) (h0 : Heap) (n0 : Nat) (Z0 : n0 ≤ h0.size) (F : own_W Z h0 r0 r1 r2 r3 r4 cl_r4) (q0 : Int32) (hs43 : ¬ (q0 = (43 : Int32))) (hs45 : ¬ (q0 = (45 : Int32))) (hs42 : q0 = (42 : Int32)) :
    MetFree l (⟨"dragoman/OperatorBySymbolPinLaw", "expected", "(C)Ldragoman/Operator;"⟩ : MethodName) (head1 (Jvm.Cond.code (⟨"dragoman/OperatorBySymbolPinLaw", "expected", "(C)Ldragoman/Operator;"⟩ : MethodName) method_3_code 1 (some (.object "dragoman/Operator")) :: ws) ({ frames := 0, cells := 0, slots := 0, locals := 0 } : Room)) (fun a U => a = #[(.int q0)] ∧ Z.Warmed39 U.vm ∧ U.heap = h0) (fun _ _ _ _ _ => True) (fun _ U o U' => ∃ v L, o = .returned v ∧ own_Q (.ref r2) h0 n0 v U'.heap L ∧ FrameEnd U o U' L ({ frames := 0, cells := 0, slots := 0, locals := 0 } : Room).cells ({ frames := 0, cells := 0, slots := 0, locals := 0 } : Room).slots) := by
  obtain ⟨S_r0, E_r0, S_r1, E_r1, S_r2, E_r2, S_r3, E_r3, S_r4, Ar_r4, Sz_r4, El_r4_0, F_r0_symbol, El_r4_1, F_r1_symbol, El_r4_2, F_r2_symbol, El_r4_3, F_r3_symbol, ne_r0_r1, ne_r0_r2, ne_r0_r3, ne_r1_r2, ne_r1_r3, ne_r2_r3⟩ := id F
  refine MetFree.of_bodySF (plainFor_of_name own_pn_OperatorBySymbolPinLaw) hisR ?_
  intro p e s m args below meth c s₁ Bd hml0 hP hK
  obtain ⟨rfl, hZ, hh⟩ := hP
  have hx := Bd.exec
  have hby := Bd.bytes
  have hml : c.maxLocals = 1 := hml0
  have hown : s.vm.findClass "dragoman/OperatorBySymbolPinLaw" = some m.cls := findClass_of_methodNamed Bd.named
  have X0 : Stand p l e ({ frames := 0, cells := 0, slots := 0, locals := 0 } : Room) s m #[(.int q0)] below meth c s₁ [] 0 0 := Stand.of_body Bd
  have e0 : s₁.heap = h0 := by rw [← hh, Bd.state]; rfl
  have N0 := Fr.nil n0
  have pre0 : ∀ t, Steps p.tables e below (s₁.setTop (mkF m 0 #[.val (.int q0)] [])) t → Steps p.tables e below (s₁.setTop (entryFrame m #[(.int q0)] 1)) t := fun t k => castTop (own_ef2_I m q0) k
  obtain ⟨T1, X1, e1, st1⟩ := getS2 X0 hx hZ hown (host := "") (Or.inl (hw _ (List.mem_of_getElem? (i := 21) rfl))) Via.refl e0 S_r2 (g := (mkF m 26 #[.val (.int q0)] [])) rfl (hb hby own_d2_26)
  obtain ⟨fs, hr, hrun, hended, hW, hsame⟩ := X1.leave (v := some (.ref r2)) (fun h => by rw [Bd.returns] at h; cases h)
  refine ⟨_, _, pre0 _ ?_, hrun, hended, _, _, rfl, ?_, ⟨_, rfl⟩, hW, hsame.mono (by decide) (by decide)⟩
  · show Steps p.tables e below (s₁.setTop (mkF m 0 #[.val (.int q0)] [])) _
    refine XS.iloadN X0.here hx rfl (hb hby own_d2_0) rfl ?_
    show Steps p.tables e below (s₁.setTop (mkF m 1 #[.val (.int q0)] [(.int q0)])) _
    refine XS.bipush X0.here hx rfl (hb hby own_d2_1) ?_
    show Steps p.tables e below (s₁.setTop (mkF m 3 #[.val (.int q0)] [(.int (43 : Int32)), (.int q0)])) _
    refine XS.icmpYes X0.here hx rfl (pc0 := 3) (pc' := 10) rfl (hb hby own_d2_3) rfl (feq (hs43 : ¬ (q0 = (43 : Int32)))).2 (by decide) (by decide) ?_
    show Steps p.tables e below (s₁.setTop (mkF m 10 #[.val (.int q0)] [])) _
    refine XS.iloadN X0.here hx rfl (hb hby own_d2_10) rfl ?_
    show Steps p.tables e below (s₁.setTop (mkF m 11 #[.val (.int q0)] [(.int q0)])) _
    refine XS.bipush X0.here hx rfl (hb hby own_d2_11) ?_
    show Steps p.tables e below (s₁.setTop (mkF m 13 #[.val (.int q0)] [(.int (45 : Int32)), (.int q0)])) _
    refine XS.icmpYes X0.here hx rfl (pc0 := 13) (pc' := 20) rfl (hb hby own_d2_13) rfl (feq (hs45 : ¬ (q0 = (45 : Int32)))).2 (by decide) (by decide) ?_
    show Steps p.tables e below (s₁.setTop (mkF m 20 #[.val (.int q0)] [])) _
    refine XS.iloadN X0.here hx rfl (hb hby own_d2_20) rfl ?_
    show Steps p.tables e below (s₁.setTop (mkF m 21 #[.val (.int q0)] [(.int q0)])) _
    refine XS.bipush X0.here hx rfl (hb hby own_d2_21) ?_
    show Steps p.tables e below (s₁.setTop (mkF m 23 #[.val (.int q0)] [(.int (42 : Int32)), (.int q0)])) _
    refine XS.icmpNo X0.here hx rfl (hb hby own_d2_23) rfl (teq (hs42 : q0 = (42 : Int32))).2 ?_
    show Steps p.tables e below (s₁.setTop (mkF m 26 #[.val (.int q0)] [])) _
    refine st1 _ ?_
    show Steps p.tables e below (T1.setTop (mkF m 29 #[.val (.int q0)] [(.ref r2)])) _
    jvm_step X1.here [X1.here.top, hx, (hb hby own_d2_29), X1.method', Bd.returns, Value.isRef, FieldType.isReference]
    first | (intro acts; rw [hr _ acts rfl rfl rfl]) | rw [hr _ _ rfl rfl rfl]
    exact Steps.refl _
  · exact ⟨rfl, N0, e1⟩
set_option maxRecDepth 65536 in
set_option maxHeartbeats 40000000 in
theorem own_r0_m0q2 (l : Launch) (Z : State) (a0 : Array Value) (hw : ∀ d ∈ tables_1, d.before a0 Z = true) (ws : List Jvm.Cond) (r0 : Addr) (r1 : Addr) (r2 : Addr) (r3 : Addr) (r4 : Addr) (cl_r4 : Cell) (h0 : Heap) (n0 : Nat) (Z0 : n0 ≤ h0.size) (F : own_W Z h0 r0 r1 r2 r3 r4 cl_r4) (i0 : Int32) (i1 : Int32) (hm : (i1 &&& (3 : Int32)) = (0 : Int32)) (hs43 : ¬ (((i0 &&& (65535 : Int32)).toUInt32.toUInt16.toUInt32.toInt32) = (43 : Int32))) (hs45 : ¬ (((i0 &&& (65535 : Int32)).toUInt32.toUInt16.toUInt32.toInt32) = (45 : Int32))) (hs42 : ((i0 &&& (65535 : Int32)).toUInt32.toUInt16.toUInt32.toInt32) = (42 : Int32)) :
    MetFree l x (head1 (Jvm.Cond.code x code maxLocals ret :: ws) room_1) (fun a U => a = #[(.int i0), (.int i1)] ∧ Z.Warmed39 U.vm ∧ U.heap = h0) (fun _ _ _ _ _ => True) (fun _ U o U' => ∃ v L, o = .returned v ∧ own_Q0 (.int (1 : Int32)) n0 v U'.heap L ∧ FrameEnd U o U' L room_1.cells room_1.slots) := by
  obtain ⟨S_r0, E_r0, S_r1, E_r1, S_r2, E_r2, S_r3, E_r3, S_r4, Ar_r4, Sz_r4, El_r4_0, F_r0_symbol, El_r4_1, F_r1_symbol, El_r4_2, F_r2_symbol, El_r4_3, F_r3_symbol, ne_r0_r1, ne_r0_r2, ne_r0_r3, ne_r1_r2, ne_r1_r3, ne_r2_r3⟩ := id F
  refine MetFree.of_bodySF (plainFor_of_name own_pn_OperatorBySymbolPinLaw) hisR ?_
  intro p e s m args below meth c s₁ Bd hml0 hP hK
  obtain ⟨rfl, hZ, hh⟩ := hP
  have hx := Bd.exec
  have hby := Bd.bytes
  have hml : c.maxLocals = 6 := hml0
  have hown : s.vm.findClass "dragoman/OperatorBySymbolPinLaw" = some m.cls := findClass_of_methodNamed Bd.named
  have X0 : Stand p l e room_1 s m #[(.int i0), (.int i1)] below meth c s₁ [] 0 0 := Stand.of_body Bd
  have e0 : s₁.heap = h0 := by rw [← hh, Bd.state]; rfl
  have N0 := Fr.nil n0
  have pre0 : ∀ t, Steps p.tables e below (s₁.setTop (mkF m 0 #[.val (.int i0), .val (.int i1), .unset, .unset, .unset, .unset] [])) t → Steps p.tables e below (s₁.setTop (entryFrame m #[(.int i0), (.int i1)] maxLocals)) t := fun t k => castTop (own_ef0_II m i0 i1) k
  obtain ⟨_, _, ⟨T1, L1, k1, n1⟩, -, X1, ⟨Lc1, hQ1, l1, y1, z1⟩, st1⟩ := Jvm.LawKit.callS X0 hx (y := (⟨"dragoman/Operator", "bySymbol", "(C)Ldragoman/Operator;"⟩ : MethodName)) hown (mvT hZ (hw _ (List.mem_of_getElem? (i := 1) rfl))) (mvT hZ (hw _ (List.mem_of_getElem? (i := 2) rfl))) (mvT hZ (hw _ (List.mem_of_getElem? (i := 3) rfl))) (mvT hZ (hw _ (List.mem_of_getElem? (i := 4) rfl))) (by decide) (backOf (W := 0) (own_r1_8 l Z a0 hw [] r0 r1 r2 r3 r4 cl_r4 h0 n0 Z0 F ((i0 &&& (65535 : Int32)).toUInt32.toUInt16.toUInt32.toInt32) hs43 hs45 hs42) hZ (hw _ (List.mem_of_getElem? (i := 4) rfl)) (hw _ (List.mem_of_getElem? (i := 3) rfl)) (by decide) (by decide)) (g := (mkF m 67 #[.val (.int i0), .val (.int i1), .val (.int (0 : Int32)), .val (.int ((i0 &&& (65535 : Int32)).toUInt32.toUInt16.toUInt32.toInt32)), .unset, .unset] [(.int ((i0 &&& (65535 : Int32)).toUInt32.toUInt16.toUInt32.toInt32))])) rfl (by rw [hml]; rfl) (argsL := [(.int ((i0 &&& (65535 : Int32)).toUInt32.toUInt16.toUInt32.toInt32))]) (rest := []) (lenOf own_pd0 rfl) rfl (by show 2 * 0 + _ ≤ _; exact Nat.le_of_eq rfl) (hb hby at_67) (fun _ _ => ⟨rfl, e0, (by decide : 0 + 0 ≤ _), (by decide : 0 + 0 ≤ _)⟩)
  dsimp only [Pt.U, Pt.locs, Pt.cells, Pt.slots] at X1 l1 y1 z1 st1 hQ1
  subst l1 y1 z1
  obtain ⟨rfl, N1q, e1⟩ := hQ1
  have N1 := Fr.app N0 N1q
  obtain ⟨_, _, ⟨T2, L2, k2, n2⟩, -, X2, ⟨Lc2, hQ2, l2, y2, z2⟩, st2⟩ := Jvm.LawKit.callS X1 hx (y := (⟨"dragoman/OperatorBySymbolPinLaw", "expected", "(C)Ldragoman/Operator;"⟩ : MethodName)) hown (mvT hZ (hw _ (List.mem_of_getElem? (i := 10) rfl))) (mvT hZ (hw _ (List.mem_of_getElem? (i := 11) rfl))) (mvT hZ (hw _ (List.mem_of_getElem? (i := 12) rfl))) (mvT hZ (hw _ (List.mem_of_getElem? (i := 13) rfl))) (by decide) (backOf (W := 0) (own_r2_9 l Z a0 hw [] r0 r1 r2 r3 r4 cl_r4 h0 n0 Z0 F ((i0 &&& (65535 : Int32)).toUInt32.toUInt16.toUInt32.toInt32) hs43 hs45 hs42) hZ (hw _ (List.mem_of_getElem? (i := 13) rfl)) (hw _ (List.mem_of_getElem? (i := 12) rfl)) (by decide) (by decide)) (g := (mkF m 73 #[.val (.int i0), .val (.int i1), .val (.int (0 : Int32)), .val (.int ((i0 &&& (65535 : Int32)).toUInt32.toUInt16.toUInt32.toInt32)), .val (.ref r2), .unset] [(.int ((i0 &&& (65535 : Int32)).toUInt32.toUInt16.toUInt32.toInt32))])) rfl (by rw [hml]; rfl) (argsL := [(.int ((i0 &&& (65535 : Int32)).toUInt32.toUInt16.toUInt32.toInt32))]) (rest := []) (lenOf own_pd0 rfl) rfl (by show 2 * 0 + _ ≤ _; exact Nat.le_of_eq rfl) (hb hby at_73) (fun _ _ => ⟨rfl, e1, (by decide : 0 + 0 ≤ _), (by decide : 0 + 0 ≤ _)⟩)
  dsimp only [Pt.U, Pt.locs, Pt.cells, Pt.slots] at X2 l2 y2 z2 st2 hQ2
  subst l2 y2 z2
  obtain ⟨rfl, N2q, e2⟩ := hQ2
  have N2 := Fr.app N1 N2q
  obtain ⟨fs, hr, hrun, hended, hW, hsame⟩ := X2.leave (v := some (.int (1 : Int32))) (fun h => by rw [Bd.returns] at h; cases h)
  refine ⟨_, _, pre0 _ ?_, hrun, hended, _, _, rfl, ?_, ⟨_, rfl⟩, hW, hsame.mono (by decide) (by decide)⟩
  · show Steps p.tables e below (s₁.setTop (mkF m 0 #[.val (.int i0), .val (.int i1), .unset, .unset, .unset, .unset] [])) _
    refine XS.iloadN X0.here hx rfl (hb hby at_0) rfl ?_
    show Steps p.tables e below (s₁.setTop (mkF m 1 #[.val (.int i0), .val (.int i1), .unset, .unset, .unset, .unset] [(.int i1)])) _
    refine XS.iconst X0.here hx rfl (hb hby at_1) ?_
    show Steps p.tables e below (s₁.setTop (mkF m 2 #[.val (.int i0), .val (.int i1), .unset, .unset, .unset, .unset] [(.int (3 : Int32)), (.int i1)])) _
    refine XS.iand X0.here hx rfl (hb hby at_2) rfl ?_
    show Steps p.tables e below (s₁.setTop (mkF m 3 #[.val (.int i0), .val (.int i1), .unset, .unset, .unset, .unset] [(.int (i1 &&& (3 : Int32)))])) _
    rw [hm]
    show Steps p.tables e below (s₁.setTop (mkF m 3 #[.val (.int i0), .val (.int i1), .unset, .unset, .unset, .unset] [(.int (0 : Int32))])) _
    refine XS.istoreN X0.here hx rfl (hb hby at_3) rfl (l' := #[.val (.int i0), .val (.int i1), .val (.int (0 : Int32)), .unset, .unset, .unset]) rfl ?_
    show Steps p.tables e below (s₁.setTop (mkF m 4 #[.val (.int i0), .val (.int i1), .val (.int (0 : Int32)), .unset, .unset, .unset] [])) _
    refine XS.iloadN X0.here hx rfl (hb hby at_4) rfl ?_
    show Steps p.tables e below (s₁.setTop (mkF m 5 #[.val (.int i0), .val (.int i1), .val (.int (0 : Int32)), .unset, .unset, .unset] [(.int (0 : Int32))])) _
    refine XS.ifNo X0.here hx rfl (hb hby at_5) rfl ((if0 _ _).trans (teq (by decide : (0 : Int32) = (0 : Int32))).2) ?_
    show Steps p.tables e below (s₁.setTop (mkF m 8 #[.val (.int i0), .val (.int i1), .val (.int (0 : Int32)), .unset, .unset, .unset] [])) _
    refine XS.iloadN X0.here hx rfl (hb hby at_8) rfl ?_
    show Steps p.tables e below (s₁.setTop (mkF m 9 #[.val (.int i0), .val (.int i1), .val (.int (0 : Int32)), .unset, .unset, .unset] [(.int i0)])) _
    refine X0.ldcInt hx hown (mvT hZ (hw _ (List.mem_of_getElem? (i := 18) rfl))) (g := (mkF m 9 #[.val (.int i0), .val (.int i1), .val (.int (0 : Int32)), .unset, .unset, .unset] [(.int i0)])) rfl (hb hby at_9) _ ?_
    show Steps p.tables e below (s₁.setTop (mkF m 11 #[.val (.int i0), .val (.int i1), .val (.int (0 : Int32)), .unset, .unset, .unset] [(.int (65535 : Int32)), (.int i0)])) _
    refine XS.iand X0.here hx rfl (hb hby at_11) rfl ?_
    show Steps p.tables e below (s₁.setTop (mkF m 12 #[.val (.int i0), .val (.int i1), .val (.int (0 : Int32)), .unset, .unset, .unset] [(.int (i0 &&& (65535 : Int32)))])) _
    refine XS.i2c X0.here hx rfl (hb hby at_12) rfl ?_
    show Steps p.tables e below (s₁.setTop (mkF m 13 #[.val (.int i0), .val (.int i1), .val (.int (0 : Int32)), .unset, .unset, .unset] [(.int ((i0 &&& (65535 : Int32)).toUInt32.toUInt16.toUInt32.toInt32))])) _
    refine XS.istoreN X0.here hx rfl (hb hby at_13) rfl (l' := #[.val (.int i0), .val (.int i1), .val (.int (0 : Int32)), .val (.int ((i0 &&& (65535 : Int32)).toUInt32.toUInt16.toUInt32.toInt32)), .unset, .unset]) rfl ?_
    show Steps p.tables e below (s₁.setTop (mkF m 14 #[.val (.int i0), .val (.int i1), .val (.int (0 : Int32)), .val (.int ((i0 &&& (65535 : Int32)).toUInt32.toUInt16.toUInt32.toInt32)), .unset, .unset] [])) _
    refine XS.goto X0.here hx rfl (pc0 := 14) (pc' := 66) rfl (hb hby at_14) (by decide) (by decide) ?_
    show Steps p.tables e below (s₁.setTop (mkF m 66 #[.val (.int i0), .val (.int i1), .val (.int (0 : Int32)), .val (.int ((i0 &&& (65535 : Int32)).toUInt32.toUInt16.toUInt32.toInt32)), .unset, .unset] [])) _
    refine XS.iloadN X0.here hx rfl (hb hby at_66) rfl ?_
    show Steps p.tables e below (s₁.setTop (mkF m 67 #[.val (.int i0), .val (.int i1), .val (.int (0 : Int32)), .val (.int ((i0 &&& (65535 : Int32)).toUInt32.toUInt16.toUInt32.toInt32)), .unset, .unset] [(.int ((i0 &&& (65535 : Int32)).toUInt32.toUInt16.toUInt32.toInt32))])) _
    refine st1 _ ?_
    show Steps p.tables e below (T1.setTop (mkF m 70 #[.val (.int i0), .val (.int i1), .val (.int (0 : Int32)), .val (.int ((i0 &&& (65535 : Int32)).toUInt32.toUInt16.toUInt32.toInt32)), .unset, .unset] [(.ref r2)])) _
    refine XS.astore X1.here hx rfl (hb hby at_70) rfl rfl (l' := #[.val (.int i0), .val (.int i1), .val (.int (0 : Int32)), .val (.int ((i0 &&& (65535 : Int32)).toUInt32.toUInt16.toUInt32.toInt32)), .val (.ref r2), .unset]) rfl ?_
    show Steps p.tables e below (T1.setTop (mkF m 72 #[.val (.int i0), .val (.int i1), .val (.int (0 : Int32)), .val (.int ((i0 &&& (65535 : Int32)).toUInt32.toUInt16.toUInt32.toInt32)), .val (.ref r2), .unset] [])) _
    refine XS.iloadN X1.here hx rfl (hb hby at_72) rfl ?_
    show Steps p.tables e below (T1.setTop (mkF m 73 #[.val (.int i0), .val (.int i1), .val (.int (0 : Int32)), .val (.int ((i0 &&& (65535 : Int32)).toUInt32.toUInt16.toUInt32.toInt32)), .val (.ref r2), .unset] [(.int ((i0 &&& (65535 : Int32)).toUInt32.toUInt16.toUInt32.toInt32))])) _
    refine st2 _ ?_
    show Steps p.tables e below (T2.setTop (mkF m 76 #[.val (.int i0), .val (.int i1), .val (.int (0 : Int32)), .val (.int ((i0 &&& (65535 : Int32)).toUInt32.toUInt16.toUInt32.toInt32)), .val (.ref r2), .unset] [(.ref r2)])) _
    refine XS.astore X2.here hx rfl (hb hby at_76) rfl rfl (l' := #[.val (.int i0), .val (.int i1), .val (.int (0 : Int32)), .val (.int ((i0 &&& (65535 : Int32)).toUInt32.toUInt16.toUInt32.toInt32)), .val (.ref r2), .val (.ref r2)]) rfl ?_
    show Steps p.tables e below (T2.setTop (mkF m 78 #[.val (.int i0), .val (.int i1), .val (.int (0 : Int32)), .val (.int ((i0 &&& (65535 : Int32)).toUInt32.toUInt16.toUInt32.toInt32)), .val (.ref r2), .val (.ref r2)] [])) _
    refine XS.aload X2.here hx rfl (hb hby at_78) rfl rfl ?_
    show Steps p.tables e below (T2.setTop (mkF m 80 #[.val (.int i0), .val (.int i1), .val (.int (0 : Int32)), .val (.int ((i0 &&& (65535 : Int32)).toUInt32.toUInt16.toUInt32.toInt32)), .val (.ref r2), .val (.ref r2)] [(.ref r2)])) _
    refine XS.aload X2.here hx rfl (hb hby at_80) rfl rfl ?_
    show Steps p.tables e below (T2.setTop (mkF m 82 #[.val (.int i0), .val (.int i1), .val (.int (0 : Int32)), .val (.int ((i0 &&& (65535 : Int32)).toUInt32.toUInt16.toUInt32.toInt32)), .val (.ref r2), .val (.ref r2)] [(.ref r2), (.ref r2)])) _
    refine Jvm.RoadKit.acmp (g := (mkF m 82 #[.val (.int i0), .val (.int i1), .val (.int (0 : Int32)), .val (.int ((i0 &&& (65535 : Int32)).toUInt32.toUInt16.toUInt32.toInt32)), .val (.ref r2), .val (.ref r2)] [(.ref r2), (.ref r2)])) X2 hx rfl rfl rfl (pc0 := 82) (pc' := 85) (same := true) rfl (hb hby at_82) rfl (decide_eq_true rfl) (by decide) (by decide) ?_
    show Steps p.tables e below (T2.setTop (mkF m 85 #[.val (.int i0), .val (.int i1), .val (.int (0 : Int32)), .val (.int ((i0 &&& (65535 : Int32)).toUInt32.toUInt16.toUInt32.toInt32)), .val (.ref r2), .val (.ref r2)] [])) _
    refine XS.iconst X2.here hx rfl (hb hby at_85) ?_
    show Steps p.tables e below (T2.setTop (mkF m 86 #[.val (.int i0), .val (.int i1), .val (.int (0 : Int32)), .val (.int ((i0 &&& (65535 : Int32)).toUInt32.toUInt16.toUInt32.toInt32)), .val (.ref r2), .val (.ref r2)] [(.int (1 : Int32))])) _
    refine XS.goto X2.here hx rfl (pc0 := 86) (pc' := 90) rfl (hb hby at_86) (by decide) (by decide) ?_
    show Steps p.tables e below (T2.setTop (mkF m 90 #[.val (.int i0), .val (.int i1), .val (.int (0 : Int32)), .val (.int ((i0 &&& (65535 : Int32)).toUInt32.toUInt16.toUInt32.toInt32)), .val (.ref r2), .val (.ref r2)] [(.int (1 : Int32))])) _
    exact retN X2 hx (t := .boolean) Bd.returns (by simp) (hb hby at_90) hr
  · exact ⟨rfl, N2⟩
set_option maxRecDepth 65536 in
set_option maxHeartbeats 40000000 in
theorem own_r1_11 (l : Launch) (Z : State) (a0 : Array Value) (hw : ∀ d ∈ tables_1, d.before a0 Z = true) (ws : List Jvm.Cond) (r0 : Addr) (r1 : Addr) (r2 : Addr) (r3 : Addr) (r4 : Addr) (cl_r4 : Cell) (h0 : Heap) (n0 : Nat) (Z0 : n0 ≤ h0.size) (F : own_W Z h0 r0 r1 r2 r3 r4 cl_r4) (q0 : Int32) (hs43 : ¬ (q0 = (43 : Int32))) (hs45 : ¬ (q0 = (45 : Int32))) (hs42 : ¬ (q0 = (42 : Int32))) (hs47 : q0 = (47 : Int32)) :
    MetFree l (⟨"dragoman/Operator", "bySymbol", "(C)Ldragoman/Operator;"⟩ : MethodName) (head1 (Jvm.Cond.code (⟨"dragoman/Operator", "bySymbol", "(C)Ldragoman/Operator;"⟩ : MethodName) prog_26_method_4_code 5 (some (.object "dragoman/Operator")) :: ws) ({ frames := 0, cells := 0, slots := 0, locals := 0 } : Room)) (fun a U => a = #[(.int q0)] ∧ Z.Warmed39 U.vm ∧ U.heap = h0) (fun _ _ _ _ _ => True) (fun _ U o U' => ∃ v L, o = .returned v ∧ own_Q (.ref r3) h0 n0 v U'.heap L ∧ FrameEnd U o U' L ({ frames := 0, cells := 0, slots := 0, locals := 0 } : Room).cells ({ frames := 0, cells := 0, slots := 0, locals := 0 } : Room).slots) := by
  obtain ⟨S_r0, E_r0, S_r1, E_r1, S_r2, E_r2, S_r3, E_r3, S_r4, Ar_r4, Sz_r4, El_r4_0, F_r0_symbol, El_r4_1, F_r1_symbol, El_r4_2, F_r2_symbol, El_r4_3, F_r3_symbol, ne_r0_r1, ne_r0_r2, ne_r0_r3, ne_r1_r2, ne_r1_r3, ne_r2_r3⟩ := id F
  refine MetFree.of_bodySF (plainFor_of_name own_pn_Operator) hisR ?_
  intro p e s m args below meth c s₁ Bd hml0 hP hK
  obtain ⟨rfl, hZ, hh⟩ := hP
  have hx := Bd.exec
  have hby := Bd.bytes
  have hml : c.maxLocals = 5 := hml0
  have hown : s.vm.findClass "dragoman/Operator" = some m.cls := findClass_of_methodNamed Bd.named
  have X0 : Stand p l e ({ frames := 0, cells := 0, slots := 0, locals := 0 } : Room) s m #[(.int q0)] below meth c s₁ [] 0 0 := Stand.of_body Bd
  have e0 : s₁.heap = h0 := by rw [← hh, Bd.state]; rfl
  have N0 := Fr.nil n0
  have pre0 : ∀ t, Steps p.tables e below (s₁.setTop (mkF m 0 #[.val (.int q0), .unset, .unset, .unset, .unset] [])) t → Steps p.tables e below (s₁.setTop (entryFrame m #[(.int q0)] 5)) t := fun t k => castTop (own_ef1_I m q0) k
  obtain ⟨T1, X1, e1, st1⟩ := getS2 X0 hx hZ hown (host := "") (Or.inl (hw _ (List.mem_of_getElem? (i := 5) rfl))) Via.refl e0 S_r4 (g := (mkF m 0 #[.val (.int q0), .unset, .unset, .unset, .unset] [])) rfl (hb hby own_d1_0)
  obtain ⟨T2, X2, e2, st2⟩ := getF X1 hx hZ hown (host := "") (Or.inl (hw _ (List.mem_of_getElem? (i := 8) rfl))) Via.refl e1 F_r0_symbol (g := (mkF m 21 #[.val (.int q0), .val (.ref r4), .val (.int (4 : Int32)), .val (.int (0 : Int32)), .val (.ref r0)] [(.ref r0)])) rfl rfl (hb hby own_d1_21)
  obtain ⟨T3, X3, e3, st3⟩ := getF X2 hx hZ hown (host := "") (Or.inl (hw _ (List.mem_of_getElem? (i := 8) rfl))) Via.refl e2 F_r1_symbol (g := (mkF m 21 #[.val (.int q0), .val (.ref r4), .val (.int (4 : Int32)), .val (.int (1 : Int32)), .val (.ref r1)] [(.ref r1)])) rfl rfl (hb hby own_d1_21)
  obtain ⟨T4, X4, e4, st4⟩ := getF X3 hx hZ hown (host := "") (Or.inl (hw _ (List.mem_of_getElem? (i := 8) rfl))) Via.refl e3 F_r2_symbol (g := (mkF m 21 #[.val (.int q0), .val (.ref r4), .val (.int (4 : Int32)), .val (.int (2 : Int32)), .val (.ref r2)] [(.ref r2)])) rfl rfl (hb hby own_d1_21)
  obtain ⟨T5, X5, e5, st5⟩ := getF X4 hx hZ hown (host := "") (Or.inl (hw _ (List.mem_of_getElem? (i := 8) rfl))) Via.refl e4 F_r3_symbol (g := (mkF m 21 #[.val (.int q0), .val (.ref r4), .val (.int (4 : Int32)), .val (.int (3 : Int32)), .val (.ref r3)] [(.ref r3)])) rfl rfl (hb hby own_d1_21)
  obtain ⟨fs, hr, hrun, hended, hW, hsame⟩ := X5.leave (v := some (.ref r3)) (fun h => by rw [Bd.returns] at h; cases h)
  refine ⟨_, _, pre0 _ ?_, hrun, hended, _, _, rfl, ?_, ⟨_, rfl⟩, hW, hsame.mono (by decide) (by decide)⟩
  · show Steps p.tables e below (s₁.setTop (mkF m 0 #[.val (.int q0), .unset, .unset, .unset, .unset] [])) _
    refine st1 _ ?_
    show Steps p.tables e below (T1.setTop (mkF m 3 #[.val (.int q0), .unset, .unset, .unset, .unset] [(.ref r4)])) _
    refine XS.astoreN X1.here hx rfl (hb hby own_d1_3) rfl rfl (l' := #[.val (.int q0), .val (.ref r4), .unset, .unset, .unset]) rfl ?_
    show Steps p.tables e below (T1.setTop (mkF m 4 #[.val (.int q0), .val (.ref r4), .unset, .unset, .unset] [])) _
    refine XS.aloadN X1.here hx rfl (hb hby own_d1_4) rfl rfl ?_
    show Steps p.tables e below (T1.setTop (mkF m 5 #[.val (.int q0), .val (.ref r4), .unset, .unset, .unset] [(.ref r4)])) _
    refine X1.arraylength hx (by rw [e1]; exact Ar_r4.1) (State.isArrayOf_alike hZ.alike Ar_r4.2.1) (g := (mkF m 5 #[.val (.int q0), .val (.ref r4), .unset, .unset, .unset] [(.ref r4)])) rfl rfl (hb hby own_d1_5) _ ?_
    rw [len_of Sz_r4 (by decide)]
    show Steps p.tables e below (T1.setTop (mkF m 6 #[.val (.int q0), .val (.ref r4), .unset, .unset, .unset] [(.int (4 : Int32))])) _
    refine XS.istoreN X1.here hx rfl (hb hby own_d1_6) rfl (l' := #[.val (.int q0), .val (.ref r4), .val (.int (4 : Int32)), .unset, .unset]) rfl ?_
    show Steps p.tables e below (T1.setTop (mkF m 7 #[.val (.int q0), .val (.ref r4), .val (.int (4 : Int32)), .unset, .unset] [])) _
    refine XS.iconst X1.here hx rfl (hb hby own_d1_7) ?_
    show Steps p.tables e below (T1.setTop (mkF m 8 #[.val (.int q0), .val (.ref r4), .val (.int (4 : Int32)), .unset, .unset] [(.int (0 : Int32))])) _
    refine XS.istoreN X1.here hx rfl (hb hby own_d1_8) rfl (l' := #[.val (.int q0), .val (.ref r4), .val (.int (4 : Int32)), .val (.int (0 : Int32)), .unset]) rfl ?_
    show Steps p.tables e below (T1.setTop (mkF m 9 #[.val (.int q0), .val (.ref r4), .val (.int (4 : Int32)), .val (.int (0 : Int32)), .unset] [])) _
    refine XS.iloadN X1.here hx rfl (hb hby own_d1_9) rfl ?_
    show Steps p.tables e below (T1.setTop (mkF m 10 #[.val (.int q0), .val (.ref r4), .val (.int (4 : Int32)), .val (.int (0 : Int32)), .unset] [(.int (0 : Int32))])) _
    refine XS.iloadN X1.here hx rfl (hb hby own_d1_10) rfl ?_
    show Steps p.tables e below (T1.setTop (mkF m 11 #[.val (.int q0), .val (.ref r4), .val (.int (4 : Int32)), .val (.int (0 : Int32)), .unset] [(.int (4 : Int32)), (.int (0 : Int32))])) _
    refine XS.icmpNo X1.here hx rfl (hb hby own_d1_11) rfl (tlt (by decide : (0 : Int32) < (4 : Int32))).2.1 ?_
    show Steps p.tables e below (T1.setTop (mkF m 14 #[.val (.int q0), .val (.ref r4), .val (.int (4 : Int32)), .val (.int (0 : Int32)), .unset] [])) _
    refine XS.aloadN X1.here hx rfl (hb hby own_d1_14) rfl rfl ?_
    show Steps p.tables e below (T1.setTop (mkF m 15 #[.val (.int q0), .val (.ref r4), .val (.int (4 : Int32)), .val (.int (0 : Int32)), .unset] [(.ref r4)])) _
    refine XS.iloadN X1.here hx rfl (hb hby own_d1_15) rfl ?_
    show Steps p.tables e below (T1.setTop (mkF m 16 #[.val (.int q0), .val (.ref r4), .val (.int (4 : Int32)), .val (.int (0 : Int32)), .unset] [(.int (0 : Int32)), (.ref r4)])) _
    refine X1.aaload hx (j := (0 : Int32)) (v := (.ref r0)) (by rw [e1]; exact Ar_r4.1) (State.isArrayOf_alike hZ.alike Ar_r4.2.1) rfl Ar_r4.2.2 (inb_of Sz_r4 ⟨by decide, by decide⟩) El_r4_0 (g := (mkF m 16 #[.val (.int q0), .val (.ref r4), .val (.int (4 : Int32)), .val (.int (0 : Int32)), .unset] [(.int (0 : Int32)), (.ref r4)])) rfl rfl (hb hby own_d1_16) _ ?_
    show Steps p.tables e below (T1.setTop (mkF m 17 #[.val (.int q0), .val (.ref r4), .val (.int (4 : Int32)), .val (.int (0 : Int32)), .unset] [(.ref r0)])) _
    refine XS.astore X1.here hx rfl (hb hby own_d1_17) rfl rfl (l' := #[.val (.int q0), .val (.ref r4), .val (.int (4 : Int32)), .val (.int (0 : Int32)), .val (.ref r0)]) rfl ?_
    show Steps p.tables e below (T1.setTop (mkF m 19 #[.val (.int q0), .val (.ref r4), .val (.int (4 : Int32)), .val (.int (0 : Int32)), .val (.ref r0)] [])) _
    refine XS.aload X1.here hx rfl (hb hby own_d1_19) rfl rfl ?_
    show Steps p.tables e below (T1.setTop (mkF m 21 #[.val (.int q0), .val (.ref r4), .val (.int (4 : Int32)), .val (.int (0 : Int32)), .val (.ref r0)] [(.ref r0)])) _
    refine st2 _ ?_
    show Steps p.tables e below (T2.setTop (mkF m 24 #[.val (.int q0), .val (.ref r4), .val (.int (4 : Int32)), .val (.int (0 : Int32)), .val (.ref r0)] [(.int (43 : Int32))])) _
    refine XS.iloadN X2.here hx rfl (hb hby own_d1_24) rfl ?_
    show Steps p.tables e below (T2.setTop (mkF m 25 #[.val (.int q0), .val (.ref r4), .val (.int (4 : Int32)), .val (.int (0 : Int32)), .val (.ref r0)] [(.int q0), (.int (43 : Int32))])) _
    refine XS.icmpYes X2.here hx rfl (pc0 := 25) (pc' := 31) rfl (hb hby own_d1_25) rfl (feq ((Ne.symm hs43) : ¬ ((43 : Int32) = q0))).2 (by decide) (by decide) ?_
    show Steps p.tables e below (T2.setTop (mkF m 31 #[.val (.int q0), .val (.ref r4), .val (.int (4 : Int32)), .val (.int (0 : Int32)), .val (.ref r0)] [])) _
    refine XS.iinc X2.here hx rfl (hb hby own_d1_31) rfl (l' := #[.val (.int q0), .val (.ref r4), .val (.int (4 : Int32)), .val (.int ((0 : Int32) + (1 : Int32))), .val (.ref r0)]) rfl ?_
    show Steps p.tables e below (T2.setTop (mkF m 34 #[.val (.int q0), .val (.ref r4), .val (.int (4 : Int32)), .val (.int ((0 : Int32) + (1 : Int32))), .val (.ref r0)] [])) _
    rw [show ((0 : Int32) + (1 : Int32)) = (1 : Int32) from by decide]
    show Steps p.tables e below (T2.setTop (mkF m 34 #[.val (.int q0), .val (.ref r4), .val (.int (4 : Int32)), .val (.int (1 : Int32)), .val (.ref r0)] [])) _
    refine XS.goto X2.here hx rfl (pc0 := 34) (pc' := 9) rfl (hb hby own_d1_34) (by decide) (by decide) ?_
    show Steps p.tables e below (T2.setTop (mkF m 9 #[.val (.int q0), .val (.ref r4), .val (.int (4 : Int32)), .val (.int (1 : Int32)), .val (.ref r0)] [])) _
    refine XS.iloadN X2.here hx rfl (hb hby own_d1_9) rfl ?_
    show Steps p.tables e below (T2.setTop (mkF m 10 #[.val (.int q0), .val (.ref r4), .val (.int (4 : Int32)), .val (.int (1 : Int32)), .val (.ref r0)] [(.int (1 : Int32))])) _
    refine XS.iloadN X2.here hx rfl (hb hby own_d1_10) rfl ?_
    show Steps p.tables e below (T2.setTop (mkF m 11 #[.val (.int q0), .val (.ref r4), .val (.int (4 : Int32)), .val (.int (1 : Int32)), .val (.ref r0)] [(.int (4 : Int32)), (.int (1 : Int32))])) _
    refine XS.icmpNo X2.here hx rfl (hb hby own_d1_11) rfl (tlt (by decide : (1 : Int32) < (4 : Int32))).2.1 ?_
    show Steps p.tables e below (T2.setTop (mkF m 14 #[.val (.int q0), .val (.ref r4), .val (.int (4 : Int32)), .val (.int (1 : Int32)), .val (.ref r0)] [])) _
    refine XS.aloadN X2.here hx rfl (hb hby own_d1_14) rfl rfl ?_
    show Steps p.tables e below (T2.setTop (mkF m 15 #[.val (.int q0), .val (.ref r4), .val (.int (4 : Int32)), .val (.int (1 : Int32)), .val (.ref r0)] [(.ref r4)])) _
    refine XS.iloadN X2.here hx rfl (hb hby own_d1_15) rfl ?_
    show Steps p.tables e below (T2.setTop (mkF m 16 #[.val (.int q0), .val (.ref r4), .val (.int (4 : Int32)), .val (.int (1 : Int32)), .val (.ref r0)] [(.int (1 : Int32)), (.ref r4)])) _
    refine X2.aaload hx (j := (1 : Int32)) (v := (.ref r1)) (by rw [e2]; exact Ar_r4.1) (State.isArrayOf_alike hZ.alike Ar_r4.2.1) rfl Ar_r4.2.2 (inb_of Sz_r4 ⟨by decide, by decide⟩) El_r4_1 (g := (mkF m 16 #[.val (.int q0), .val (.ref r4), .val (.int (4 : Int32)), .val (.int (1 : Int32)), .val (.ref r0)] [(.int (1 : Int32)), (.ref r4)])) rfl rfl (hb hby own_d1_16) _ ?_
    show Steps p.tables e below (T2.setTop (mkF m 17 #[.val (.int q0), .val (.ref r4), .val (.int (4 : Int32)), .val (.int (1 : Int32)), .val (.ref r0)] [(.ref r1)])) _
    refine XS.astore X2.here hx rfl (hb hby own_d1_17) rfl rfl (l' := #[.val (.int q0), .val (.ref r4), .val (.int (4 : Int32)), .val (.int (1 : Int32)), .val (.ref r1)]) rfl ?_
    show Steps p.tables e below (T2.setTop (mkF m 19 #[.val (.int q0), .val (.ref r4), .val (.int (4 : Int32)), .val (.int (1 : Int32)), .val (.ref r1)] [])) _
    refine XS.aload X2.here hx rfl (hb hby own_d1_19) rfl rfl ?_
    show Steps p.tables e below (T2.setTop (mkF m 21 #[.val (.int q0), .val (.ref r4), .val (.int (4 : Int32)), .val (.int (1 : Int32)), .val (.ref r1)] [(.ref r1)])) _
    refine st3 _ ?_
    show Steps p.tables e below (T3.setTop (mkF m 24 #[.val (.int q0), .val (.ref r4), .val (.int (4 : Int32)), .val (.int (1 : Int32)), .val (.ref r1)] [(.int (45 : Int32))])) _
    refine XS.iloadN X3.here hx rfl (hb hby own_d1_24) rfl ?_
    show Steps p.tables e below (T3.setTop (mkF m 25 #[.val (.int q0), .val (.ref r4), .val (.int (4 : Int32)), .val (.int (1 : Int32)), .val (.ref r1)] [(.int q0), (.int (45 : Int32))])) _
    refine XS.icmpYes X3.here hx rfl (pc0 := 25) (pc' := 31) rfl (hb hby own_d1_25) rfl (feq ((Ne.symm hs45) : ¬ ((45 : Int32) = q0))).2 (by decide) (by decide) ?_
    show Steps p.tables e below (T3.setTop (mkF m 31 #[.val (.int q0), .val (.ref r4), .val (.int (4 : Int32)), .val (.int (1 : Int32)), .val (.ref r1)] [])) _
    refine XS.iinc X3.here hx rfl (hb hby own_d1_31) rfl (l' := #[.val (.int q0), .val (.ref r4), .val (.int (4 : Int32)), .val (.int ((1 : Int32) + (1 : Int32))), .val (.ref r1)]) rfl ?_
    show Steps p.tables e below (T3.setTop (mkF m 34 #[.val (.int q0), .val (.ref r4), .val (.int (4 : Int32)), .val (.int ((1 : Int32) + (1 : Int32))), .val (.ref r1)] [])) _
    rw [show ((1 : Int32) + (1 : Int32)) = (2 : Int32) from by decide]
    show Steps p.tables e below (T3.setTop (mkF m 34 #[.val (.int q0), .val (.ref r4), .val (.int (4 : Int32)), .val (.int (2 : Int32)), .val (.ref r1)] [])) _
    refine XS.goto X3.here hx rfl (pc0 := 34) (pc' := 9) rfl (hb hby own_d1_34) (by decide) (by decide) ?_
    show Steps p.tables e below (T3.setTop (mkF m 9 #[.val (.int q0), .val (.ref r4), .val (.int (4 : Int32)), .val (.int (2 : Int32)), .val (.ref r1)] [])) _
    refine XS.iloadN X3.here hx rfl (hb hby own_d1_9) rfl ?_
    show Steps p.tables e below (T3.setTop (mkF m 10 #[.val (.int q0), .val (.ref r4), .val (.int (4 : Int32)), .val (.int (2 : Int32)), .val (.ref r1)] [(.int (2 : Int32))])) _
    refine XS.iloadN X3.here hx rfl (hb hby own_d1_10) rfl ?_
    show Steps p.tables e below (T3.setTop (mkF m 11 #[.val (.int q0), .val (.ref r4), .val (.int (4 : Int32)), .val (.int (2 : Int32)), .val (.ref r1)] [(.int (4 : Int32)), (.int (2 : Int32))])) _
    refine XS.icmpNo X3.here hx rfl (hb hby own_d1_11) rfl (tlt (by decide : (2 : Int32) < (4 : Int32))).2.1 ?_
    show Steps p.tables e below (T3.setTop (mkF m 14 #[.val (.int q0), .val (.ref r4), .val (.int (4 : Int32)), .val (.int (2 : Int32)), .val (.ref r1)] [])) _
    refine XS.aloadN X3.here hx rfl (hb hby own_d1_14) rfl rfl ?_
    show Steps p.tables e below (T3.setTop (mkF m 15 #[.val (.int q0), .val (.ref r4), .val (.int (4 : Int32)), .val (.int (2 : Int32)), .val (.ref r1)] [(.ref r4)])) _
    refine XS.iloadN X3.here hx rfl (hb hby own_d1_15) rfl ?_
    show Steps p.tables e below (T3.setTop (mkF m 16 #[.val (.int q0), .val (.ref r4), .val (.int (4 : Int32)), .val (.int (2 : Int32)), .val (.ref r1)] [(.int (2 : Int32)), (.ref r4)])) _
    refine X3.aaload hx (j := (2 : Int32)) (v := (.ref r2)) (by rw [e3]; exact Ar_r4.1) (State.isArrayOf_alike hZ.alike Ar_r4.2.1) rfl Ar_r4.2.2 (inb_of Sz_r4 ⟨by decide, by decide⟩) El_r4_2 (g := (mkF m 16 #[.val (.int q0), .val (.ref r4), .val (.int (4 : Int32)), .val (.int (2 : Int32)), .val (.ref r1)] [(.int (2 : Int32)), (.ref r4)])) rfl rfl (hb hby own_d1_16) _ ?_
    show Steps p.tables e below (T3.setTop (mkF m 17 #[.val (.int q0), .val (.ref r4), .val (.int (4 : Int32)), .val (.int (2 : Int32)), .val (.ref r1)] [(.ref r2)])) _
    refine XS.astore X3.here hx rfl (hb hby own_d1_17) rfl rfl (l' := #[.val (.int q0), .val (.ref r4), .val (.int (4 : Int32)), .val (.int (2 : Int32)), .val (.ref r2)]) rfl ?_
    show Steps p.tables e below (T3.setTop (mkF m 19 #[.val (.int q0), .val (.ref r4), .val (.int (4 : Int32)), .val (.int (2 : Int32)), .val (.ref r2)] [])) _
    refine XS.aload X3.here hx rfl (hb hby own_d1_19) rfl rfl ?_
    show Steps p.tables e below (T3.setTop (mkF m 21 #[.val (.int q0), .val (.ref r4), .val (.int (4 : Int32)), .val (.int (2 : Int32)), .val (.ref r2)] [(.ref r2)])) _
    refine st4 _ ?_
    show Steps p.tables e below (T4.setTop (mkF m 24 #[.val (.int q0), .val (.ref r4), .val (.int (4 : Int32)), .val (.int (2 : Int32)), .val (.ref r2)] [(.int (42 : Int32))])) _
    refine XS.iloadN X4.here hx rfl (hb hby own_d1_24) rfl ?_
    show Steps p.tables e below (T4.setTop (mkF m 25 #[.val (.int q0), .val (.ref r4), .val (.int (4 : Int32)), .val (.int (2 : Int32)), .val (.ref r2)] [(.int q0), (.int (42 : Int32))])) _
    refine XS.icmpYes X4.here hx rfl (pc0 := 25) (pc' := 31) rfl (hb hby own_d1_25) rfl (feq ((Ne.symm hs42) : ¬ ((42 : Int32) = q0))).2 (by decide) (by decide) ?_
    show Steps p.tables e below (T4.setTop (mkF m 31 #[.val (.int q0), .val (.ref r4), .val (.int (4 : Int32)), .val (.int (2 : Int32)), .val (.ref r2)] [])) _
    refine XS.iinc X4.here hx rfl (hb hby own_d1_31) rfl (l' := #[.val (.int q0), .val (.ref r4), .val (.int (4 : Int32)), .val (.int ((2 : Int32) + (1 : Int32))), .val (.ref r2)]) rfl ?_
    show Steps p.tables e below (T4.setTop (mkF m 34 #[.val (.int q0), .val (.ref r4), .val (.int (4 : Int32)), .val (.int ((2 : Int32) + (1 : Int32))), .val (.ref r2)] [])) _
    rw [show ((2 : Int32) + (1 : Int32)) = (3 : Int32) from by decide]
    show Steps p.tables e below (T4.setTop (mkF m 34 #[.val (.int q0), .val (.ref r4), .val (.int (4 : Int32)), .val (.int (3 : Int32)), .val (.ref r2)] [])) _
    refine XS.goto X4.here hx rfl (pc0 := 34) (pc' := 9) rfl (hb hby own_d1_34) (by decide) (by decide) ?_
    show Steps p.tables e below (T4.setTop (mkF m 9 #[.val (.int q0), .val (.ref r4), .val (.int (4 : Int32)), .val (.int (3 : Int32)), .val (.ref r2)] [])) _
    refine XS.iloadN X4.here hx rfl (hb hby own_d1_9) rfl ?_
    show Steps p.tables e below (T4.setTop (mkF m 10 #[.val (.int q0), .val (.ref r4), .val (.int (4 : Int32)), .val (.int (3 : Int32)), .val (.ref r2)] [(.int (3 : Int32))])) _
    refine XS.iloadN X4.here hx rfl (hb hby own_d1_10) rfl ?_
    show Steps p.tables e below (T4.setTop (mkF m 11 #[.val (.int q0), .val (.ref r4), .val (.int (4 : Int32)), .val (.int (3 : Int32)), .val (.ref r2)] [(.int (4 : Int32)), (.int (3 : Int32))])) _
    refine XS.icmpNo X4.here hx rfl (hb hby own_d1_11) rfl (tlt (by decide : (3 : Int32) < (4 : Int32))).2.1 ?_
    show Steps p.tables e below (T4.setTop (mkF m 14 #[.val (.int q0), .val (.ref r4), .val (.int (4 : Int32)), .val (.int (3 : Int32)), .val (.ref r2)] [])) _
    refine XS.aloadN X4.here hx rfl (hb hby own_d1_14) rfl rfl ?_
    show Steps p.tables e below (T4.setTop (mkF m 15 #[.val (.int q0), .val (.ref r4), .val (.int (4 : Int32)), .val (.int (3 : Int32)), .val (.ref r2)] [(.ref r4)])) _
    refine XS.iloadN X4.here hx rfl (hb hby own_d1_15) rfl ?_
    show Steps p.tables e below (T4.setTop (mkF m 16 #[.val (.int q0), .val (.ref r4), .val (.int (4 : Int32)), .val (.int (3 : Int32)), .val (.ref r2)] [(.int (3 : Int32)), (.ref r4)])) _
    refine X4.aaload hx (j := (3 : Int32)) (v := (.ref r3)) (by rw [e4]; exact Ar_r4.1) (State.isArrayOf_alike hZ.alike Ar_r4.2.1) rfl Ar_r4.2.2 (inb_of Sz_r4 ⟨by decide, by decide⟩) El_r4_3 (g := (mkF m 16 #[.val (.int q0), .val (.ref r4), .val (.int (4 : Int32)), .val (.int (3 : Int32)), .val (.ref r2)] [(.int (3 : Int32)), (.ref r4)])) rfl rfl (hb hby own_d1_16) _ ?_
    show Steps p.tables e below (T4.setTop (mkF m 17 #[.val (.int q0), .val (.ref r4), .val (.int (4 : Int32)), .val (.int (3 : Int32)), .val (.ref r2)] [(.ref r3)])) _
    refine XS.astore X4.here hx rfl (hb hby own_d1_17) rfl rfl (l' := #[.val (.int q0), .val (.ref r4), .val (.int (4 : Int32)), .val (.int (3 : Int32)), .val (.ref r3)]) rfl ?_
    show Steps p.tables e below (T4.setTop (mkF m 19 #[.val (.int q0), .val (.ref r4), .val (.int (4 : Int32)), .val (.int (3 : Int32)), .val (.ref r3)] [])) _
    refine XS.aload X4.here hx rfl (hb hby own_d1_19) rfl rfl ?_
    show Steps p.tables e below (T4.setTop (mkF m 21 #[.val (.int q0), .val (.ref r4), .val (.int (4 : Int32)), .val (.int (3 : Int32)), .val (.ref r3)] [(.ref r3)])) _
    refine st5 _ ?_
    show Steps p.tables e below (T5.setTop (mkF m 24 #[.val (.int q0), .val (.ref r4), .val (.int (4 : Int32)), .val (.int (3 : Int32)), .val (.ref r3)] [(.int (47 : Int32))])) _
    refine XS.iloadN X5.here hx rfl (hb hby own_d1_24) rfl ?_
    show Steps p.tables e below (T5.setTop (mkF m 25 #[.val (.int q0), .val (.ref r4), .val (.int (4 : Int32)), .val (.int (3 : Int32)), .val (.ref r3)] [(.int q0), (.int (47 : Int32))])) _
    refine XS.icmpNo X5.here hx rfl (hb hby own_d1_25) rfl (teq (hs47.symm : (47 : Int32) = q0)).2 ?_
    show Steps p.tables e below (T5.setTop (mkF m 28 #[.val (.int q0), .val (.ref r4), .val (.int (4 : Int32)), .val (.int (3 : Int32)), .val (.ref r3)] [])) _
    refine XS.aload X5.here hx rfl (hb hby own_d1_28) rfl rfl ?_
    show Steps p.tables e below (T5.setTop (mkF m 30 #[.val (.int q0), .val (.ref r4), .val (.int (4 : Int32)), .val (.int (3 : Int32)), .val (.ref r3)] [(.ref r3)])) _
    jvm_step X5.here [X5.here.top, hx, (hb hby own_d1_30), X5.method', Bd.returns, Value.isRef, FieldType.isReference]
    first | (intro acts; rw [hr _ acts rfl rfl rfl]) | rw [hr _ _ rfl rfl rfl]
    exact Steps.refl _
  · exact ⟨rfl, N0, e5⟩
theorem own_d2_30 : decode method_3_code 30 = .ok (.iload_n 0, 1) := by decide +kernel
theorem own_d2_31 : decode method_3_code 31 = .ok (.bipush 47, 2) := by decide +kernel
theorem own_d2_33 : decode method_3_code 33 = .ok (.if_icmp .ne 7, 3) := by decide +kernel
theorem own_d2_36 : decode method_3_code 36 = .ok (.getstatic 29, 3) := by decide +kernel
theorem own_d2_39 : decode method_3_code 39 = .ok (.areturn, 1) := by decide +kernel
set_option maxRecDepth 65536 in
set_option maxHeartbeats 40000000 in
theorem own_r2_12 (l : Launch) (Z : State) (a0 : Array Value) (hw : ∀ d ∈ tables_1, d.before a0 Z = true) (ws : List Jvm.Cond) (r0 : Addr) (r1 : Addr) (r2 : Addr) (r3 : Addr) (r4 : Addr) (cl_r4 : Cell) (h0 : Heap) (n0 : Nat) (Z0 : n0 ≤ h0.size) (F : own_W Z h0 r0 r1 r2 r3 r4 cl_r4) (q0 : Int32) (hs43 : ¬ (q0 = (43 : Int32))) (hs45 : ¬ (q0 = (45 : Int32))) (hs42 : ¬ (q0 = (42 : Int32))) (hs47 : q0 = (47 : Int32)) :
    MetFree l (⟨"dragoman/OperatorBySymbolPinLaw", "expected", "(C)Ldragoman/Operator;"⟩ : MethodName) (head1 (Jvm.Cond.code (⟨"dragoman/OperatorBySymbolPinLaw", "expected", "(C)Ldragoman/Operator;"⟩ : MethodName) method_3_code 1 (some (.object "dragoman/Operator")) :: ws) ({ frames := 0, cells := 0, slots := 0, locals := 0 } : Room)) (fun a U => a = #[(.int q0)] ∧ Z.Warmed39 U.vm ∧ U.heap = h0) (fun _ _ _ _ _ => True) (fun _ U o U' => ∃ v L, o = .returned v ∧ own_Q (.ref r3) h0 n0 v U'.heap L ∧ FrameEnd U o U' L ({ frames := 0, cells := 0, slots := 0, locals := 0 } : Room).cells ({ frames := 0, cells := 0, slots := 0, locals := 0 } : Room).slots) := by
  obtain ⟨S_r0, E_r0, S_r1, E_r1, S_r2, E_r2, S_r3, E_r3, S_r4, Ar_r4, Sz_r4, El_r4_0, F_r0_symbol, El_r4_1, F_r1_symbol, El_r4_2, F_r2_symbol, El_r4_3, F_r3_symbol, ne_r0_r1, ne_r0_r2, ne_r0_r3, ne_r1_r2, ne_r1_r3, ne_r2_r3⟩ := id F
  refine MetFree.of_bodySF (plainFor_of_name own_pn_OperatorBySymbolPinLaw) hisR ?_
  intro p e s m args below meth c s₁ Bd hml0 hP hK
  obtain ⟨rfl, hZ, hh⟩ := hP
  have hx := Bd.exec
  have hby := Bd.bytes
  have hml : c.maxLocals = 1 := hml0
  have hown : s.vm.findClass "dragoman/OperatorBySymbolPinLaw" = some m.cls := findClass_of_methodNamed Bd.named
  have X0 : Stand p l e ({ frames := 0, cells := 0, slots := 0, locals := 0 } : Room) s m #[(.int q0)] below meth c s₁ [] 0 0 := Stand.of_body Bd
  have e0 : s₁.heap = h0 := by rw [← hh, Bd.state]; rfl
  have N0 := Fr.nil n0
  have pre0 : ∀ t, Steps p.tables e below (s₁.setTop (mkF m 0 #[.val (.int q0)] [])) t → Steps p.tables e below (s₁.setTop (entryFrame m #[(.int q0)] 1)) t := fun t k => castTop (own_ef2_I m q0) k
  obtain ⟨T1, X1, e1, st1⟩ := getS2 X0 hx hZ hown (host := "") (Or.inl (hw _ (List.mem_of_getElem? (i := 19) rfl))) Via.refl e0 S_r3 (g := (mkF m 36 #[.val (.int q0)] [])) rfl (hb hby own_d2_36)
  obtain ⟨fs, hr, hrun, hended, hW, hsame⟩ := X1.leave (v := some (.ref r3)) (fun h => by rw [Bd.returns] at h; cases h)
  refine ⟨_, _, pre0 _ ?_, hrun, hended, _, _, rfl, ?_, ⟨_, rfl⟩, hW, hsame.mono (by decide) (by decide)⟩
  · show Steps p.tables e below (s₁.setTop (mkF m 0 #[.val (.int q0)] [])) _
    refine XS.iloadN X0.here hx rfl (hb hby own_d2_0) rfl ?_
    show Steps p.tables e below (s₁.setTop (mkF m 1 #[.val (.int q0)] [(.int q0)])) _
    refine XS.bipush X0.here hx rfl (hb hby own_d2_1) ?_
    show Steps p.tables e below (s₁.setTop (mkF m 3 #[.val (.int q0)] [(.int (43 : Int32)), (.int q0)])) _
    refine XS.icmpYes X0.here hx rfl (pc0 := 3) (pc' := 10) rfl (hb hby own_d2_3) rfl (feq (hs43 : ¬ (q0 = (43 : Int32)))).2 (by decide) (by decide) ?_
    show Steps p.tables e below (s₁.setTop (mkF m 10 #[.val (.int q0)] [])) _
    refine XS.iloadN X0.here hx rfl (hb hby own_d2_10) rfl ?_
    show Steps p.tables e below (s₁.setTop (mkF m 11 #[.val (.int q0)] [(.int q0)])) _
    refine XS.bipush X0.here hx rfl (hb hby own_d2_11) ?_
    show Steps p.tables e below (s₁.setTop (mkF m 13 #[.val (.int q0)] [(.int (45 : Int32)), (.int q0)])) _
    refine XS.icmpYes X0.here hx rfl (pc0 := 13) (pc' := 20) rfl (hb hby own_d2_13) rfl (feq (hs45 : ¬ (q0 = (45 : Int32)))).2 (by decide) (by decide) ?_
    show Steps p.tables e below (s₁.setTop (mkF m 20 #[.val (.int q0)] [])) _
    refine XS.iloadN X0.here hx rfl (hb hby own_d2_20) rfl ?_
    show Steps p.tables e below (s₁.setTop (mkF m 21 #[.val (.int q0)] [(.int q0)])) _
    refine XS.bipush X0.here hx rfl (hb hby own_d2_21) ?_
    show Steps p.tables e below (s₁.setTop (mkF m 23 #[.val (.int q0)] [(.int (42 : Int32)), (.int q0)])) _
    refine XS.icmpYes X0.here hx rfl (pc0 := 23) (pc' := 30) rfl (hb hby own_d2_23) rfl (feq (hs42 : ¬ (q0 = (42 : Int32)))).2 (by decide) (by decide) ?_
    show Steps p.tables e below (s₁.setTop (mkF m 30 #[.val (.int q0)] [])) _
    refine XS.iloadN X0.here hx rfl (hb hby own_d2_30) rfl ?_
    show Steps p.tables e below (s₁.setTop (mkF m 31 #[.val (.int q0)] [(.int q0)])) _
    refine XS.bipush X0.here hx rfl (hb hby own_d2_31) ?_
    show Steps p.tables e below (s₁.setTop (mkF m 33 #[.val (.int q0)] [(.int (47 : Int32)), (.int q0)])) _
    refine XS.icmpNo X0.here hx rfl (hb hby own_d2_33) rfl (teq (hs47 : q0 = (47 : Int32))).2 ?_
    show Steps p.tables e below (s₁.setTop (mkF m 36 #[.val (.int q0)] [])) _
    refine st1 _ ?_
    show Steps p.tables e below (T1.setTop (mkF m 39 #[.val (.int q0)] [(.ref r3)])) _
    jvm_step X1.here [X1.here.top, hx, (hb hby own_d2_39), X1.method', Bd.returns, Value.isRef, FieldType.isReference]
    first | (intro acts; rw [hr _ acts rfl rfl rfl]) | rw [hr _ _ rfl rfl rfl]
    exact Steps.refl _
  · exact ⟨rfl, N0, e1⟩
set_option maxRecDepth 65536 in
set_option maxHeartbeats 40000000 in
theorem own_r0_m0q3 (l : Launch) (Z : State) (a0 : Array Value) (hw : ∀ d ∈ tables_1, d.before a0 Z = true) (ws : List Jvm.Cond) (r0 : Addr) (r1 : Addr) (r2 : Addr) (r3 : Addr) (r4 : Addr) (cl_r4 : Cell) (h0 : Heap) (n0 : Nat) (Z0 : n0 ≤ h0.size) (F : own_W Z h0 r0 r1 r2 r3 r4 cl_r4) (i0 : Int32) (i1 : Int32) (hm : (i1 &&& (3 : Int32)) = (0 : Int32)) (hs43 : ¬ (((i0 &&& (65535 : Int32)).toUInt32.toUInt16.toUInt32.toInt32) = (43 : Int32))) (hs45 : ¬ (((i0 &&& (65535 : Int32)).toUInt32.toUInt16.toUInt32.toInt32) = (45 : Int32))) (hs42 : ¬ (((i0 &&& (65535 : Int32)).toUInt32.toUInt16.toUInt32.toInt32) = (42 : Int32))) (hs47 : ((i0 &&& (65535 : Int32)).toUInt32.toUInt16.toUInt32.toInt32) = (47 : Int32)) :
    MetFree l x (head1 (Jvm.Cond.code x code maxLocals ret :: ws) room_1) (fun a U => a = #[(.int i0), (.int i1)] ∧ Z.Warmed39 U.vm ∧ U.heap = h0) (fun _ _ _ _ _ => True) (fun _ U o U' => ∃ v L, o = .returned v ∧ own_Q0 (.int (1 : Int32)) n0 v U'.heap L ∧ FrameEnd U o U' L room_1.cells room_1.slots) := by
  obtain ⟨S_r0, E_r0, S_r1, E_r1, S_r2, E_r2, S_r3, E_r3, S_r4, Ar_r4, Sz_r4, El_r4_0, F_r0_symbol, El_r4_1, F_r1_symbol, El_r4_2, F_r2_symbol, El_r4_3, F_r3_symbol, ne_r0_r1, ne_r0_r2, ne_r0_r3, ne_r1_r2, ne_r1_r3, ne_r2_r3⟩ := id F
  refine MetFree.of_bodySF (plainFor_of_name own_pn_OperatorBySymbolPinLaw) hisR ?_
  intro p e s m args below meth c s₁ Bd hml0 hP hK
  obtain ⟨rfl, hZ, hh⟩ := hP
  have hx := Bd.exec
  have hby := Bd.bytes
  have hml : c.maxLocals = 6 := hml0
  have hown : s.vm.findClass "dragoman/OperatorBySymbolPinLaw" = some m.cls := findClass_of_methodNamed Bd.named
  have X0 : Stand p l e room_1 s m #[(.int i0), (.int i1)] below meth c s₁ [] 0 0 := Stand.of_body Bd
  have e0 : s₁.heap = h0 := by rw [← hh, Bd.state]; rfl
  have N0 := Fr.nil n0
  have pre0 : ∀ t, Steps p.tables e below (s₁.setTop (mkF m 0 #[.val (.int i0), .val (.int i1), .unset, .unset, .unset, .unset] [])) t → Steps p.tables e below (s₁.setTop (entryFrame m #[(.int i0), (.int i1)] maxLocals)) t := fun t k => castTop (own_ef0_II m i0 i1) k
  obtain ⟨_, _, ⟨T1, L1, k1, n1⟩, -, X1, ⟨Lc1, hQ1, l1, y1, z1⟩, st1⟩ := Jvm.LawKit.callS X0 hx (y := (⟨"dragoman/Operator", "bySymbol", "(C)Ldragoman/Operator;"⟩ : MethodName)) hown (mvT hZ (hw _ (List.mem_of_getElem? (i := 1) rfl))) (mvT hZ (hw _ (List.mem_of_getElem? (i := 2) rfl))) (mvT hZ (hw _ (List.mem_of_getElem? (i := 3) rfl))) (mvT hZ (hw _ (List.mem_of_getElem? (i := 4) rfl))) (by decide) (backOf (W := 0) (own_r1_11 l Z a0 hw [] r0 r1 r2 r3 r4 cl_r4 h0 n0 Z0 F ((i0 &&& (65535 : Int32)).toUInt32.toUInt16.toUInt32.toInt32) hs43 hs45 hs42 hs47) hZ (hw _ (List.mem_of_getElem? (i := 4) rfl)) (hw _ (List.mem_of_getElem? (i := 3) rfl)) (by decide) (by decide)) (g := (mkF m 67 #[.val (.int i0), .val (.int i1), .val (.int (0 : Int32)), .val (.int ((i0 &&& (65535 : Int32)).toUInt32.toUInt16.toUInt32.toInt32)), .unset, .unset] [(.int ((i0 &&& (65535 : Int32)).toUInt32.toUInt16.toUInt32.toInt32))])) rfl (by rw [hml]; rfl) (argsL := [(.int ((i0 &&& (65535 : Int32)).toUInt32.toUInt16.toUInt32.toInt32))]) (rest := []) (lenOf own_pd0 rfl) rfl (by show 2 * 0 + _ ≤ _; exact Nat.le_of_eq rfl) (hb hby at_67) (fun _ _ => ⟨rfl, e0, (by decide : 0 + 0 ≤ _), (by decide : 0 + 0 ≤ _)⟩)
  dsimp only [Pt.U, Pt.locs, Pt.cells, Pt.slots] at X1 l1 y1 z1 st1 hQ1
  subst l1 y1 z1
  obtain ⟨rfl, N1q, e1⟩ := hQ1
  have N1 := Fr.app N0 N1q
  obtain ⟨_, _, ⟨T2, L2, k2, n2⟩, -, X2, ⟨Lc2, hQ2, l2, y2, z2⟩, st2⟩ := Jvm.LawKit.callS X1 hx (y := (⟨"dragoman/OperatorBySymbolPinLaw", "expected", "(C)Ldragoman/Operator;"⟩ : MethodName)) hown (mvT hZ (hw _ (List.mem_of_getElem? (i := 10) rfl))) (mvT hZ (hw _ (List.mem_of_getElem? (i := 11) rfl))) (mvT hZ (hw _ (List.mem_of_getElem? (i := 12) rfl))) (mvT hZ (hw _ (List.mem_of_getElem? (i := 13) rfl))) (by decide) (backOf (W := 0) (own_r2_12 l Z a0 hw [] r0 r1 r2 r3 r4 cl_r4 h0 n0 Z0 F ((i0 &&& (65535 : Int32)).toUInt32.toUInt16.toUInt32.toInt32) hs43 hs45 hs42 hs47) hZ (hw _ (List.mem_of_getElem? (i := 13) rfl)) (hw _ (List.mem_of_getElem? (i := 12) rfl)) (by decide) (by decide)) (g := (mkF m 73 #[.val (.int i0), .val (.int i1), .val (.int (0 : Int32)), .val (.int ((i0 &&& (65535 : Int32)).toUInt32.toUInt16.toUInt32.toInt32)), .val (.ref r3), .unset] [(.int ((i0 &&& (65535 : Int32)).toUInt32.toUInt16.toUInt32.toInt32))])) rfl (by rw [hml]; rfl) (argsL := [(.int ((i0 &&& (65535 : Int32)).toUInt32.toUInt16.toUInt32.toInt32))]) (rest := []) (lenOf own_pd0 rfl) rfl (by show 2 * 0 + _ ≤ _; exact Nat.le_of_eq rfl) (hb hby at_73) (fun _ _ => ⟨rfl, e1, (by decide : 0 + 0 ≤ _), (by decide : 0 + 0 ≤ _)⟩)
  dsimp only [Pt.U, Pt.locs, Pt.cells, Pt.slots] at X2 l2 y2 z2 st2 hQ2
  subst l2 y2 z2
  obtain ⟨rfl, N2q, e2⟩ := hQ2
  have N2 := Fr.app N1 N2q
  obtain ⟨fs, hr, hrun, hended, hW, hsame⟩ := X2.leave (v := some (.int (1 : Int32))) (fun h => by rw [Bd.returns] at h; cases h)
  refine ⟨_, _, pre0 _ ?_, hrun, hended, _, _, rfl, ?_, ⟨_, rfl⟩, hW, hsame.mono (by decide) (by decide)⟩
  · show Steps p.tables e below (s₁.setTop (mkF m 0 #[.val (.int i0), .val (.int i1), .unset, .unset, .unset, .unset] [])) _
    refine XS.iloadN X0.here hx rfl (hb hby at_0) rfl ?_
    show Steps p.tables e below (s₁.setTop (mkF m 1 #[.val (.int i0), .val (.int i1), .unset, .unset, .unset, .unset] [(.int i1)])) _
    refine XS.iconst X0.here hx rfl (hb hby at_1) ?_
    show Steps p.tables e below (s₁.setTop (mkF m 2 #[.val (.int i0), .val (.int i1), .unset, .unset, .unset, .unset] [(.int (3 : Int32)), (.int i1)])) _
    refine XS.iand X0.here hx rfl (hb hby at_2) rfl ?_
    show Steps p.tables e below (s₁.setTop (mkF m 3 #[.val (.int i0), .val (.int i1), .unset, .unset, .unset, .unset] [(.int (i1 &&& (3 : Int32)))])) _
    rw [hm]
    show Steps p.tables e below (s₁.setTop (mkF m 3 #[.val (.int i0), .val (.int i1), .unset, .unset, .unset, .unset] [(.int (0 : Int32))])) _
    refine XS.istoreN X0.here hx rfl (hb hby at_3) rfl (l' := #[.val (.int i0), .val (.int i1), .val (.int (0 : Int32)), .unset, .unset, .unset]) rfl ?_
    show Steps p.tables e below (s₁.setTop (mkF m 4 #[.val (.int i0), .val (.int i1), .val (.int (0 : Int32)), .unset, .unset, .unset] [])) _
    refine XS.iloadN X0.here hx rfl (hb hby at_4) rfl ?_
    show Steps p.tables e below (s₁.setTop (mkF m 5 #[.val (.int i0), .val (.int i1), .val (.int (0 : Int32)), .unset, .unset, .unset] [(.int (0 : Int32))])) _
    refine XS.ifNo X0.here hx rfl (hb hby at_5) rfl ((if0 _ _).trans (teq (by decide : (0 : Int32) = (0 : Int32))).2) ?_
    show Steps p.tables e below (s₁.setTop (mkF m 8 #[.val (.int i0), .val (.int i1), .val (.int (0 : Int32)), .unset, .unset, .unset] [])) _
    refine XS.iloadN X0.here hx rfl (hb hby at_8) rfl ?_
    show Steps p.tables e below (s₁.setTop (mkF m 9 #[.val (.int i0), .val (.int i1), .val (.int (0 : Int32)), .unset, .unset, .unset] [(.int i0)])) _
    refine X0.ldcInt hx hown (mvT hZ (hw _ (List.mem_of_getElem? (i := 18) rfl))) (g := (mkF m 9 #[.val (.int i0), .val (.int i1), .val (.int (0 : Int32)), .unset, .unset, .unset] [(.int i0)])) rfl (hb hby at_9) _ ?_
    show Steps p.tables e below (s₁.setTop (mkF m 11 #[.val (.int i0), .val (.int i1), .val (.int (0 : Int32)), .unset, .unset, .unset] [(.int (65535 : Int32)), (.int i0)])) _
    refine XS.iand X0.here hx rfl (hb hby at_11) rfl ?_
    show Steps p.tables e below (s₁.setTop (mkF m 12 #[.val (.int i0), .val (.int i1), .val (.int (0 : Int32)), .unset, .unset, .unset] [(.int (i0 &&& (65535 : Int32)))])) _
    refine XS.i2c X0.here hx rfl (hb hby at_12) rfl ?_
    show Steps p.tables e below (s₁.setTop (mkF m 13 #[.val (.int i0), .val (.int i1), .val (.int (0 : Int32)), .unset, .unset, .unset] [(.int ((i0 &&& (65535 : Int32)).toUInt32.toUInt16.toUInt32.toInt32))])) _
    refine XS.istoreN X0.here hx rfl (hb hby at_13) rfl (l' := #[.val (.int i0), .val (.int i1), .val (.int (0 : Int32)), .val (.int ((i0 &&& (65535 : Int32)).toUInt32.toUInt16.toUInt32.toInt32)), .unset, .unset]) rfl ?_
    show Steps p.tables e below (s₁.setTop (mkF m 14 #[.val (.int i0), .val (.int i1), .val (.int (0 : Int32)), .val (.int ((i0 &&& (65535 : Int32)).toUInt32.toUInt16.toUInt32.toInt32)), .unset, .unset] [])) _
    refine XS.goto X0.here hx rfl (pc0 := 14) (pc' := 66) rfl (hb hby at_14) (by decide) (by decide) ?_
    show Steps p.tables e below (s₁.setTop (mkF m 66 #[.val (.int i0), .val (.int i1), .val (.int (0 : Int32)), .val (.int ((i0 &&& (65535 : Int32)).toUInt32.toUInt16.toUInt32.toInt32)), .unset, .unset] [])) _
    refine XS.iloadN X0.here hx rfl (hb hby at_66) rfl ?_
    show Steps p.tables e below (s₁.setTop (mkF m 67 #[.val (.int i0), .val (.int i1), .val (.int (0 : Int32)), .val (.int ((i0 &&& (65535 : Int32)).toUInt32.toUInt16.toUInt32.toInt32)), .unset, .unset] [(.int ((i0 &&& (65535 : Int32)).toUInt32.toUInt16.toUInt32.toInt32))])) _
    refine st1 _ ?_
    show Steps p.tables e below (T1.setTop (mkF m 70 #[.val (.int i0), .val (.int i1), .val (.int (0 : Int32)), .val (.int ((i0 &&& (65535 : Int32)).toUInt32.toUInt16.toUInt32.toInt32)), .unset, .unset] [(.ref r3)])) _
    refine XS.astore X1.here hx rfl (hb hby at_70) rfl rfl (l' := #[.val (.int i0), .val (.int i1), .val (.int (0 : Int32)), .val (.int ((i0 &&& (65535 : Int32)).toUInt32.toUInt16.toUInt32.toInt32)), .val (.ref r3), .unset]) rfl ?_
    show Steps p.tables e below (T1.setTop (mkF m 72 #[.val (.int i0), .val (.int i1), .val (.int (0 : Int32)), .val (.int ((i0 &&& (65535 : Int32)).toUInt32.toUInt16.toUInt32.toInt32)), .val (.ref r3), .unset] [])) _
    refine XS.iloadN X1.here hx rfl (hb hby at_72) rfl ?_
    show Steps p.tables e below (T1.setTop (mkF m 73 #[.val (.int i0), .val (.int i1), .val (.int (0 : Int32)), .val (.int ((i0 &&& (65535 : Int32)).toUInt32.toUInt16.toUInt32.toInt32)), .val (.ref r3), .unset] [(.int ((i0 &&& (65535 : Int32)).toUInt32.toUInt16.toUInt32.toInt32))])) _
    refine st2 _ ?_
    show Steps p.tables e below (T2.setTop (mkF m 76 #[.val (.int i0), .val (.int i1), .val (.int (0 : Int32)), .val (.int ((i0 &&& (65535 : Int32)).toUInt32.toUInt16.toUInt32.toInt32)), .val (.ref r3), .unset] [(.ref r3)])) _
    refine XS.astore X2.here hx rfl (hb hby at_76) rfl rfl (l' := #[.val (.int i0), .val (.int i1), .val (.int (0 : Int32)), .val (.int ((i0 &&& (65535 : Int32)).toUInt32.toUInt16.toUInt32.toInt32)), .val (.ref r3), .val (.ref r3)]) rfl ?_
    show Steps p.tables e below (T2.setTop (mkF m 78 #[.val (.int i0), .val (.int i1), .val (.int (0 : Int32)), .val (.int ((i0 &&& (65535 : Int32)).toUInt32.toUInt16.toUInt32.toInt32)), .val (.ref r3), .val (.ref r3)] [])) _
    refine XS.aload X2.here hx rfl (hb hby at_78) rfl rfl ?_
    show Steps p.tables e below (T2.setTop (mkF m 80 #[.val (.int i0), .val (.int i1), .val (.int (0 : Int32)), .val (.int ((i0 &&& (65535 : Int32)).toUInt32.toUInt16.toUInt32.toInt32)), .val (.ref r3), .val (.ref r3)] [(.ref r3)])) _
    refine XS.aload X2.here hx rfl (hb hby at_80) rfl rfl ?_
    show Steps p.tables e below (T2.setTop (mkF m 82 #[.val (.int i0), .val (.int i1), .val (.int (0 : Int32)), .val (.int ((i0 &&& (65535 : Int32)).toUInt32.toUInt16.toUInt32.toInt32)), .val (.ref r3), .val (.ref r3)] [(.ref r3), (.ref r3)])) _
    refine Jvm.RoadKit.acmp (g := (mkF m 82 #[.val (.int i0), .val (.int i1), .val (.int (0 : Int32)), .val (.int ((i0 &&& (65535 : Int32)).toUInt32.toUInt16.toUInt32.toInt32)), .val (.ref r3), .val (.ref r3)] [(.ref r3), (.ref r3)])) X2 hx rfl rfl rfl (pc0 := 82) (pc' := 85) (same := true) rfl (hb hby at_82) rfl (decide_eq_true rfl) (by decide) (by decide) ?_
    show Steps p.tables e below (T2.setTop (mkF m 85 #[.val (.int i0), .val (.int i1), .val (.int (0 : Int32)), .val (.int ((i0 &&& (65535 : Int32)).toUInt32.toUInt16.toUInt32.toInt32)), .val (.ref r3), .val (.ref r3)] [])) _
    refine XS.iconst X2.here hx rfl (hb hby at_85) ?_
    show Steps p.tables e below (T2.setTop (mkF m 86 #[.val (.int i0), .val (.int i1), .val (.int (0 : Int32)), .val (.int ((i0 &&& (65535 : Int32)).toUInt32.toUInt16.toUInt32.toInt32)), .val (.ref r3), .val (.ref r3)] [(.int (1 : Int32))])) _
    refine XS.goto X2.here hx rfl (pc0 := 86) (pc' := 90) rfl (hb hby at_86) (by decide) (by decide) ?_
    show Steps p.tables e below (T2.setTop (mkF m 90 #[.val (.int i0), .val (.int i1), .val (.int (0 : Int32)), .val (.int ((i0 &&& (65535 : Int32)).toUInt32.toUInt16.toUInt32.toInt32)), .val (.ref r3), .val (.ref r3)] [(.int (1 : Int32))])) _
    exact retN X2 hx (t := .boolean) Bd.returns (by simp) (hb hby at_90) hr
  · exact ⟨rfl, N2⟩
theorem own_d1_37 : decode prog_26_method_4_code 37 = .ok (.aconst_null, 1) := by decide +kernel
theorem own_d1_38 : decode prog_26_method_4_code 38 = .ok (.areturn, 1) := by decide +kernel
set_option maxRecDepth 65536 in
set_option maxHeartbeats 40000000 in
theorem own_r1_14 (l : Launch) (Z : State) (a0 : Array Value) (hw : ∀ d ∈ tables_1, d.before a0 Z = true) (ws : List Jvm.Cond) (r0 : Addr) (r1 : Addr) (r2 : Addr) (r3 : Addr) (r4 : Addr) (cl_r4 : Cell) (h0 : Heap) (n0 : Nat) (Z0 : n0 ≤ h0.size) (F : own_W Z h0 r0 r1 r2 r3 r4 cl_r4) (q0 : Int32) (hs43 : ¬ (q0 = (43 : Int32))) (hs45 : ¬ (q0 = (45 : Int32))) (hs42 : ¬ (q0 = (42 : Int32))) (hs47 : ¬ (q0 = (47 : Int32))) :
    MetFree l (⟨"dragoman/Operator", "bySymbol", "(C)Ldragoman/Operator;"⟩ : MethodName) (head1 (Jvm.Cond.code (⟨"dragoman/Operator", "bySymbol", "(C)Ldragoman/Operator;"⟩ : MethodName) prog_26_method_4_code 5 (some (.object "dragoman/Operator")) :: ws) ({ frames := 0, cells := 0, slots := 0, locals := 0 } : Room)) (fun a U => a = #[(.int q0)] ∧ Z.Warmed39 U.vm ∧ U.heap = h0) (fun _ _ _ _ _ => True) (fun _ U o U' => ∃ v L, o = .returned v ∧ own_Q .null h0 n0 v U'.heap L ∧ FrameEnd U o U' L ({ frames := 0, cells := 0, slots := 0, locals := 0 } : Room).cells ({ frames := 0, cells := 0, slots := 0, locals := 0 } : Room).slots) := by
  obtain ⟨S_r0, E_r0, S_r1, E_r1, S_r2, E_r2, S_r3, E_r3, S_r4, Ar_r4, Sz_r4, El_r4_0, F_r0_symbol, El_r4_1, F_r1_symbol, El_r4_2, F_r2_symbol, El_r4_3, F_r3_symbol, ne_r0_r1, ne_r0_r2, ne_r0_r3, ne_r1_r2, ne_r1_r3, ne_r2_r3⟩ := id F
  refine MetFree.of_bodySF (plainFor_of_name own_pn_Operator) hisR ?_
  intro p e s m args below meth c s₁ Bd hml0 hP hK
  obtain ⟨rfl, hZ, hh⟩ := hP
  have hx := Bd.exec
  have hby := Bd.bytes
  have hml : c.maxLocals = 5 := hml0
  have hown : s.vm.findClass "dragoman/Operator" = some m.cls := findClass_of_methodNamed Bd.named
  have X0 : Stand p l e ({ frames := 0, cells := 0, slots := 0, locals := 0 } : Room) s m #[(.int q0)] below meth c s₁ [] 0 0 := Stand.of_body Bd
  have e0 : s₁.heap = h0 := by rw [← hh, Bd.state]; rfl
  have N0 := Fr.nil n0
  have pre0 : ∀ t, Steps p.tables e below (s₁.setTop (mkF m 0 #[.val (.int q0), .unset, .unset, .unset, .unset] [])) t → Steps p.tables e below (s₁.setTop (entryFrame m #[(.int q0)] 5)) t := fun t k => castTop (own_ef1_I m q0) k
  obtain ⟨T1, X1, e1, st1⟩ := getS2 X0 hx hZ hown (host := "") (Or.inl (hw _ (List.mem_of_getElem? (i := 5) rfl))) Via.refl e0 S_r4 (g := (mkF m 0 #[.val (.int q0), .unset, .unset, .unset, .unset] [])) rfl (hb hby own_d1_0)
  obtain ⟨T2, X2, e2, st2⟩ := getF X1 hx hZ hown (host := "") (Or.inl (hw _ (List.mem_of_getElem? (i := 8) rfl))) Via.refl e1 F_r0_symbol (g := (mkF m 21 #[.val (.int q0), .val (.ref r4), .val (.int (4 : Int32)), .val (.int (0 : Int32)), .val (.ref r0)] [(.ref r0)])) rfl rfl (hb hby own_d1_21)
  obtain ⟨T3, X3, e3, st3⟩ := getF X2 hx hZ hown (host := "") (Or.inl (hw _ (List.mem_of_getElem? (i := 8) rfl))) Via.refl e2 F_r1_symbol (g := (mkF m 21 #[.val (.int q0), .val (.ref r4), .val (.int (4 : Int32)), .val (.int (1 : Int32)), .val (.ref r1)] [(.ref r1)])) rfl rfl (hb hby own_d1_21)
  obtain ⟨T4, X4, e4, st4⟩ := getF X3 hx hZ hown (host := "") (Or.inl (hw _ (List.mem_of_getElem? (i := 8) rfl))) Via.refl e3 F_r2_symbol (g := (mkF m 21 #[.val (.int q0), .val (.ref r4), .val (.int (4 : Int32)), .val (.int (2 : Int32)), .val (.ref r2)] [(.ref r2)])) rfl rfl (hb hby own_d1_21)
  obtain ⟨T5, X5, e5, st5⟩ := getF X4 hx hZ hown (host := "") (Or.inl (hw _ (List.mem_of_getElem? (i := 8) rfl))) Via.refl e4 F_r3_symbol (g := (mkF m 21 #[.val (.int q0), .val (.ref r4), .val (.int (4 : Int32)), .val (.int (3 : Int32)), .val (.ref r3)] [(.ref r3)])) rfl rfl (hb hby own_d1_21)
  obtain ⟨fs, hr, hrun, hended, hW, hsame⟩ := X5.leave (v := some .null) (fun h => by rw [Bd.returns] at h; cases h)
  refine ⟨_, _, pre0 _ ?_, hrun, hended, _, _, rfl, ?_, ⟨_, rfl⟩, hW, hsame.mono (by decide) (by decide)⟩
  · show Steps p.tables e below (s₁.setTop (mkF m 0 #[.val (.int q0), .unset, .unset, .unset, .unset] [])) _
    refine st1 _ ?_
    show Steps p.tables e below (T1.setTop (mkF m 3 #[.val (.int q0), .unset, .unset, .unset, .unset] [(.ref r4)])) _
    refine XS.astoreN X1.here hx rfl (hb hby own_d1_3) rfl rfl (l' := #[.val (.int q0), .val (.ref r4), .unset, .unset, .unset]) rfl ?_
    show Steps p.tables e below (T1.setTop (mkF m 4 #[.val (.int q0), .val (.ref r4), .unset, .unset, .unset] [])) _
    refine XS.aloadN X1.here hx rfl (hb hby own_d1_4) rfl rfl ?_
    show Steps p.tables e below (T1.setTop (mkF m 5 #[.val (.int q0), .val (.ref r4), .unset, .unset, .unset] [(.ref r4)])) _
    refine X1.arraylength hx (by rw [e1]; exact Ar_r4.1) (State.isArrayOf_alike hZ.alike Ar_r4.2.1) (g := (mkF m 5 #[.val (.int q0), .val (.ref r4), .unset, .unset, .unset] [(.ref r4)])) rfl rfl (hb hby own_d1_5) _ ?_
    rw [len_of Sz_r4 (by decide)]
    show Steps p.tables e below (T1.setTop (mkF m 6 #[.val (.int q0), .val (.ref r4), .unset, .unset, .unset] [(.int (4 : Int32))])) _
    refine XS.istoreN X1.here hx rfl (hb hby own_d1_6) rfl (l' := #[.val (.int q0), .val (.ref r4), .val (.int (4 : Int32)), .unset, .unset]) rfl ?_
    show Steps p.tables e below (T1.setTop (mkF m 7 #[.val (.int q0), .val (.ref r4), .val (.int (4 : Int32)), .unset, .unset] [])) _
    refine XS.iconst X1.here hx rfl (hb hby own_d1_7) ?_
    show Steps p.tables e below (T1.setTop (mkF m 8 #[.val (.int q0), .val (.ref r4), .val (.int (4 : Int32)), .unset, .unset] [(.int (0 : Int32))])) _
    refine XS.istoreN X1.here hx rfl (hb hby own_d1_8) rfl (l' := #[.val (.int q0), .val (.ref r4), .val (.int (4 : Int32)), .val (.int (0 : Int32)), .unset]) rfl ?_
    show Steps p.tables e below (T1.setTop (mkF m 9 #[.val (.int q0), .val (.ref r4), .val (.int (4 : Int32)), .val (.int (0 : Int32)), .unset] [])) _
    refine XS.iloadN X1.here hx rfl (hb hby own_d1_9) rfl ?_
    show Steps p.tables e below (T1.setTop (mkF m 10 #[.val (.int q0), .val (.ref r4), .val (.int (4 : Int32)), .val (.int (0 : Int32)), .unset] [(.int (0 : Int32))])) _
    refine XS.iloadN X1.here hx rfl (hb hby own_d1_10) rfl ?_
    show Steps p.tables e below (T1.setTop (mkF m 11 #[.val (.int q0), .val (.ref r4), .val (.int (4 : Int32)), .val (.int (0 : Int32)), .unset] [(.int (4 : Int32)), (.int (0 : Int32))])) _
    refine XS.icmpNo X1.here hx rfl (hb hby own_d1_11) rfl (tlt (by decide : (0 : Int32) < (4 : Int32))).2.1 ?_
    show Steps p.tables e below (T1.setTop (mkF m 14 #[.val (.int q0), .val (.ref r4), .val (.int (4 : Int32)), .val (.int (0 : Int32)), .unset] [])) _
    refine XS.aloadN X1.here hx rfl (hb hby own_d1_14) rfl rfl ?_
    show Steps p.tables e below (T1.setTop (mkF m 15 #[.val (.int q0), .val (.ref r4), .val (.int (4 : Int32)), .val (.int (0 : Int32)), .unset] [(.ref r4)])) _
    refine XS.iloadN X1.here hx rfl (hb hby own_d1_15) rfl ?_
    show Steps p.tables e below (T1.setTop (mkF m 16 #[.val (.int q0), .val (.ref r4), .val (.int (4 : Int32)), .val (.int (0 : Int32)), .unset] [(.int (0 : Int32)), (.ref r4)])) _
    refine X1.aaload hx (j := (0 : Int32)) (v := (.ref r0)) (by rw [e1]; exact Ar_r4.1) (State.isArrayOf_alike hZ.alike Ar_r4.2.1) rfl Ar_r4.2.2 (inb_of Sz_r4 ⟨by decide, by decide⟩) El_r4_0 (g := (mkF m 16 #[.val (.int q0), .val (.ref r4), .val (.int (4 : Int32)), .val (.int (0 : Int32)), .unset] [(.int (0 : Int32)), (.ref r4)])) rfl rfl (hb hby own_d1_16) _ ?_
    show Steps p.tables e below (T1.setTop (mkF m 17 #[.val (.int q0), .val (.ref r4), .val (.int (4 : Int32)), .val (.int (0 : Int32)), .unset] [(.ref r0)])) _
    refine XS.astore X1.here hx rfl (hb hby own_d1_17) rfl rfl (l' := #[.val (.int q0), .val (.ref r4), .val (.int (4 : Int32)), .val (.int (0 : Int32)), .val (.ref r0)]) rfl ?_
    show Steps p.tables e below (T1.setTop (mkF m 19 #[.val (.int q0), .val (.ref r4), .val (.int (4 : Int32)), .val (.int (0 : Int32)), .val (.ref r0)] [])) _
    refine XS.aload X1.here hx rfl (hb hby own_d1_19) rfl rfl ?_
    show Steps p.tables e below (T1.setTop (mkF m 21 #[.val (.int q0), .val (.ref r4), .val (.int (4 : Int32)), .val (.int (0 : Int32)), .val (.ref r0)] [(.ref r0)])) _
    refine st2 _ ?_
    show Steps p.tables e below (T2.setTop (mkF m 24 #[.val (.int q0), .val (.ref r4), .val (.int (4 : Int32)), .val (.int (0 : Int32)), .val (.ref r0)] [(.int (43 : Int32))])) _
    refine XS.iloadN X2.here hx rfl (hb hby own_d1_24) rfl ?_
    show Steps p.tables e below (T2.setTop (mkF m 25 #[.val (.int q0), .val (.ref r4), .val (.int (4 : Int32)), .val (.int (0 : Int32)), .val (.ref r0)] [(.int q0), (.int (43 : Int32))])) _
    refine XS.icmpYes X2.here hx rfl (pc0 := 25) (pc' := 31) rfl (hb hby own_d1_25) rfl (feq ((Ne.symm hs43) : ¬ ((43 : Int32) = q0))).2 (by decide) (by decide) ?_
    show Steps p.tables e below (T2.setTop (mkF m 31 #[.val (.int q0), .val (.ref r4), .val (.int (4 : Int32)), .val (.int (0 : Int32)), .val (.ref r0)] [])) _
    refine XS.iinc X2.here hx rfl (hb hby own_d1_31) rfl (l' := #[.val (.int q0), .val (.ref r4), .val (.int (4 : Int32)), .val (.int ((0 : Int32) + (1 : Int32))), .val (.ref r0)]) rfl ?_
    show Steps p.tables e below (T2.setTop (mkF m 34 #[.val (.int q0), .val (.ref r4), .val (.int (4 : Int32)), .val (.int ((0 : Int32) + (1 : Int32))), .val (.ref r0)] [])) _
    rw [show ((0 : Int32) + (1 : Int32)) = (1 : Int32) from by decide]
    show Steps p.tables e below (T2.setTop (mkF m 34 #[.val (.int q0), .val (.ref r4), .val (.int (4 : Int32)), .val (.int (1 : Int32)), .val (.ref r0)] [])) _
    refine XS.goto X2.here hx rfl (pc0 := 34) (pc' := 9) rfl (hb hby own_d1_34) (by decide) (by decide) ?_
    show Steps p.tables e below (T2.setTop (mkF m 9 #[.val (.int q0), .val (.ref r4), .val (.int (4 : Int32)), .val (.int (1 : Int32)), .val (.ref r0)] [])) _
    refine XS.iloadN X2.here hx rfl (hb hby own_d1_9) rfl ?_
    show Steps p.tables e below (T2.setTop (mkF m 10 #[.val (.int q0), .val (.ref r4), .val (.int (4 : Int32)), .val (.int (1 : Int32)), .val (.ref r0)] [(.int (1 : Int32))])) _
    refine XS.iloadN X2.here hx rfl (hb hby own_d1_10) rfl ?_
    show Steps p.tables e below (T2.setTop (mkF m 11 #[.val (.int q0), .val (.ref r4), .val (.int (4 : Int32)), .val (.int (1 : Int32)), .val (.ref r0)] [(.int (4 : Int32)), (.int (1 : Int32))])) _
    refine XS.icmpNo X2.here hx rfl (hb hby own_d1_11) rfl (tlt (by decide : (1 : Int32) < (4 : Int32))).2.1 ?_
    show Steps p.tables e below (T2.setTop (mkF m 14 #[.val (.int q0), .val (.ref r4), .val (.int (4 : Int32)), .val (.int (1 : Int32)), .val (.ref r0)] [])) _
    refine XS.aloadN X2.here hx rfl (hb hby own_d1_14) rfl rfl ?_
    show Steps p.tables e below (T2.setTop (mkF m 15 #[.val (.int q0), .val (.ref r4), .val (.int (4 : Int32)), .val (.int (1 : Int32)), .val (.ref r0)] [(.ref r4)])) _
    refine XS.iloadN X2.here hx rfl (hb hby own_d1_15) rfl ?_
    show Steps p.tables e below (T2.setTop (mkF m 16 #[.val (.int q0), .val (.ref r4), .val (.int (4 : Int32)), .val (.int (1 : Int32)), .val (.ref r0)] [(.int (1 : Int32)), (.ref r4)])) _
    refine X2.aaload hx (j := (1 : Int32)) (v := (.ref r1)) (by rw [e2]; exact Ar_r4.1) (State.isArrayOf_alike hZ.alike Ar_r4.2.1) rfl Ar_r4.2.2 (inb_of Sz_r4 ⟨by decide, by decide⟩) El_r4_1 (g := (mkF m 16 #[.val (.int q0), .val (.ref r4), .val (.int (4 : Int32)), .val (.int (1 : Int32)), .val (.ref r0)] [(.int (1 : Int32)), (.ref r4)])) rfl rfl (hb hby own_d1_16) _ ?_
    show Steps p.tables e below (T2.setTop (mkF m 17 #[.val (.int q0), .val (.ref r4), .val (.int (4 : Int32)), .val (.int (1 : Int32)), .val (.ref r0)] [(.ref r1)])) _
    refine XS.astore X2.here hx rfl (hb hby own_d1_17) rfl rfl (l' := #[.val (.int q0), .val (.ref r4), .val (.int (4 : Int32)), .val (.int (1 : Int32)), .val (.ref r1)]) rfl ?_
    show Steps p.tables e below (T2.setTop (mkF m 19 #[.val (.int q0), .val (.ref r4), .val (.int (4 : Int32)), .val (.int (1 : Int32)), .val (.ref r1)] [])) _
    refine XS.aload X2.here hx rfl (hb hby own_d1_19) rfl rfl ?_
    show Steps p.tables e below (T2.setTop (mkF m 21 #[.val (.int q0), .val (.ref r4), .val (.int (4 : Int32)), .val (.int (1 : Int32)), .val (.ref r1)] [(.ref r1)])) _
    refine st3 _ ?_
    show Steps p.tables e below (T3.setTop (mkF m 24 #[.val (.int q0), .val (.ref r4), .val (.int (4 : Int32)), .val (.int (1 : Int32)), .val (.ref r1)] [(.int (45 : Int32))])) _
    refine XS.iloadN X3.here hx rfl (hb hby own_d1_24) rfl ?_
    show Steps p.tables e below (T3.setTop (mkF m 25 #[.val (.int q0), .val (.ref r4), .val (.int (4 : Int32)), .val (.int (1 : Int32)), .val (.ref r1)] [(.int q0), (.int (45 : Int32))])) _
    refine XS.icmpYes X3.here hx rfl (pc0 := 25) (pc' := 31) rfl (hb hby own_d1_25) rfl (feq ((Ne.symm hs45) : ¬ ((45 : Int32) = q0))).2 (by decide) (by decide) ?_
    show Steps p.tables e below (T3.setTop (mkF m 31 #[.val (.int q0), .val (.ref r4), .val (.int (4 : Int32)), .val (.int (1 : Int32)), .val (.ref r1)] [])) _
    refine XS.iinc X3.here hx rfl (hb hby own_d1_31) rfl (l' := #[.val (.int q0), .val (.ref r4), .val (.int (4 : Int32)), .val (.int ((1 : Int32) + (1 : Int32))), .val (.ref r1)]) rfl ?_
    show Steps p.tables e below (T3.setTop (mkF m 34 #[.val (.int q0), .val (.ref r4), .val (.int (4 : Int32)), .val (.int ((1 : Int32) + (1 : Int32))), .val (.ref r1)] [])) _
    rw [show ((1 : Int32) + (1 : Int32)) = (2 : Int32) from by decide]
    show Steps p.tables e below (T3.setTop (mkF m 34 #[.val (.int q0), .val (.ref r4), .val (.int (4 : Int32)), .val (.int (2 : Int32)), .val (.ref r1)] [])) _
    refine XS.goto X3.here hx rfl (pc0 := 34) (pc' := 9) rfl (hb hby own_d1_34) (by decide) (by decide) ?_
    show Steps p.tables e below (T3.setTop (mkF m 9 #[.val (.int q0), .val (.ref r4), .val (.int (4 : Int32)), .val (.int (2 : Int32)), .val (.ref r1)] [])) _
    refine XS.iloadN X3.here hx rfl (hb hby own_d1_9) rfl ?_
    show Steps p.tables e below (T3.setTop (mkF m 10 #[.val (.int q0), .val (.ref r4), .val (.int (4 : Int32)), .val (.int (2 : Int32)), .val (.ref r1)] [(.int (2 : Int32))])) _
    refine XS.iloadN X3.here hx rfl (hb hby own_d1_10) rfl ?_
    show Steps p.tables e below (T3.setTop (mkF m 11 #[.val (.int q0), .val (.ref r4), .val (.int (4 : Int32)), .val (.int (2 : Int32)), .val (.ref r1)] [(.int (4 : Int32)), (.int (2 : Int32))])) _
    refine XS.icmpNo X3.here hx rfl (hb hby own_d1_11) rfl (tlt (by decide : (2 : Int32) < (4 : Int32))).2.1 ?_
    show Steps p.tables e below (T3.setTop (mkF m 14 #[.val (.int q0), .val (.ref r4), .val (.int (4 : Int32)), .val (.int (2 : Int32)), .val (.ref r1)] [])) _
    refine XS.aloadN X3.here hx rfl (hb hby own_d1_14) rfl rfl ?_
    show Steps p.tables e below (T3.setTop (mkF m 15 #[.val (.int q0), .val (.ref r4), .val (.int (4 : Int32)), .val (.int (2 : Int32)), .val (.ref r1)] [(.ref r4)])) _
    refine XS.iloadN X3.here hx rfl (hb hby own_d1_15) rfl ?_
    show Steps p.tables e below (T3.setTop (mkF m 16 #[.val (.int q0), .val (.ref r4), .val (.int (4 : Int32)), .val (.int (2 : Int32)), .val (.ref r1)] [(.int (2 : Int32)), (.ref r4)])) _
    refine X3.aaload hx (j := (2 : Int32)) (v := (.ref r2)) (by rw [e3]; exact Ar_r4.1) (State.isArrayOf_alike hZ.alike Ar_r4.2.1) rfl Ar_r4.2.2 (inb_of Sz_r4 ⟨by decide, by decide⟩) El_r4_2 (g := (mkF m 16 #[.val (.int q0), .val (.ref r4), .val (.int (4 : Int32)), .val (.int (2 : Int32)), .val (.ref r1)] [(.int (2 : Int32)), (.ref r4)])) rfl rfl (hb hby own_d1_16) _ ?_
    show Steps p.tables e below (T3.setTop (mkF m 17 #[.val (.int q0), .val (.ref r4), .val (.int (4 : Int32)), .val (.int (2 : Int32)), .val (.ref r1)] [(.ref r2)])) _
    refine XS.astore X3.here hx rfl (hb hby own_d1_17) rfl rfl (l' := #[.val (.int q0), .val (.ref r4), .val (.int (4 : Int32)), .val (.int (2 : Int32)), .val (.ref r2)]) rfl ?_
    show Steps p.tables e below (T3.setTop (mkF m 19 #[.val (.int q0), .val (.ref r4), .val (.int (4 : Int32)), .val (.int (2 : Int32)), .val (.ref r2)] [])) _
    refine XS.aload X3.here hx rfl (hb hby own_d1_19) rfl rfl ?_
    show Steps p.tables e below (T3.setTop (mkF m 21 #[.val (.int q0), .val (.ref r4), .val (.int (4 : Int32)), .val (.int (2 : Int32)), .val (.ref r2)] [(.ref r2)])) _
    refine st4 _ ?_
    show Steps p.tables e below (T4.setTop (mkF m 24 #[.val (.int q0), .val (.ref r4), .val (.int (4 : Int32)), .val (.int (2 : Int32)), .val (.ref r2)] [(.int (42 : Int32))])) _
    refine XS.iloadN X4.here hx rfl (hb hby own_d1_24) rfl ?_
    show Steps p.tables e below (T4.setTop (mkF m 25 #[.val (.int q0), .val (.ref r4), .val (.int (4 : Int32)), .val (.int (2 : Int32)), .val (.ref r2)] [(.int q0), (.int (42 : Int32))])) _
    refine XS.icmpYes X4.here hx rfl (pc0 := 25) (pc' := 31) rfl (hb hby own_d1_25) rfl (feq ((Ne.symm hs42) : ¬ ((42 : Int32) = q0))).2 (by decide) (by decide) ?_
    show Steps p.tables e below (T4.setTop (mkF m 31 #[.val (.int q0), .val (.ref r4), .val (.int (4 : Int32)), .val (.int (2 : Int32)), .val (.ref r2)] [])) _
    refine XS.iinc X4.here hx rfl (hb hby own_d1_31) rfl (l' := #[.val (.int q0), .val (.ref r4), .val (.int (4 : Int32)), .val (.int ((2 : Int32) + (1 : Int32))), .val (.ref r2)]) rfl ?_
    show Steps p.tables e below (T4.setTop (mkF m 34 #[.val (.int q0), .val (.ref r4), .val (.int (4 : Int32)), .val (.int ((2 : Int32) + (1 : Int32))), .val (.ref r2)] [])) _
    rw [show ((2 : Int32) + (1 : Int32)) = (3 : Int32) from by decide]
    show Steps p.tables e below (T4.setTop (mkF m 34 #[.val (.int q0), .val (.ref r4), .val (.int (4 : Int32)), .val (.int (3 : Int32)), .val (.ref r2)] [])) _
    refine XS.goto X4.here hx rfl (pc0 := 34) (pc' := 9) rfl (hb hby own_d1_34) (by decide) (by decide) ?_
    show Steps p.tables e below (T4.setTop (mkF m 9 #[.val (.int q0), .val (.ref r4), .val (.int (4 : Int32)), .val (.int (3 : Int32)), .val (.ref r2)] [])) _
    refine XS.iloadN X4.here hx rfl (hb hby own_d1_9) rfl ?_
    show Steps p.tables e below (T4.setTop (mkF m 10 #[.val (.int q0), .val (.ref r4), .val (.int (4 : Int32)), .val (.int (3 : Int32)), .val (.ref r2)] [(.int (3 : Int32))])) _
    refine XS.iloadN X4.here hx rfl (hb hby own_d1_10) rfl ?_
    show Steps p.tables e below (T4.setTop (mkF m 11 #[.val (.int q0), .val (.ref r4), .val (.int (4 : Int32)), .val (.int (3 : Int32)), .val (.ref r2)] [(.int (4 : Int32)), (.int (3 : Int32))])) _
    refine XS.icmpNo X4.here hx rfl (hb hby own_d1_11) rfl (tlt (by decide : (3 : Int32) < (4 : Int32))).2.1 ?_
    show Steps p.tables e below (T4.setTop (mkF m 14 #[.val (.int q0), .val (.ref r4), .val (.int (4 : Int32)), .val (.int (3 : Int32)), .val (.ref r2)] [])) _
    refine XS.aloadN X4.here hx rfl (hb hby own_d1_14) rfl rfl ?_
    show Steps p.tables e below (T4.setTop (mkF m 15 #[.val (.int q0), .val (.ref r4), .val (.int (4 : Int32)), .val (.int (3 : Int32)), .val (.ref r2)] [(.ref r4)])) _
    refine XS.iloadN X4.here hx rfl (hb hby own_d1_15) rfl ?_
    show Steps p.tables e below (T4.setTop (mkF m 16 #[.val (.int q0), .val (.ref r4), .val (.int (4 : Int32)), .val (.int (3 : Int32)), .val (.ref r2)] [(.int (3 : Int32)), (.ref r4)])) _
    refine X4.aaload hx (j := (3 : Int32)) (v := (.ref r3)) (by rw [e4]; exact Ar_r4.1) (State.isArrayOf_alike hZ.alike Ar_r4.2.1) rfl Ar_r4.2.2 (inb_of Sz_r4 ⟨by decide, by decide⟩) El_r4_3 (g := (mkF m 16 #[.val (.int q0), .val (.ref r4), .val (.int (4 : Int32)), .val (.int (3 : Int32)), .val (.ref r2)] [(.int (3 : Int32)), (.ref r4)])) rfl rfl (hb hby own_d1_16) _ ?_
    show Steps p.tables e below (T4.setTop (mkF m 17 #[.val (.int q0), .val (.ref r4), .val (.int (4 : Int32)), .val (.int (3 : Int32)), .val (.ref r2)] [(.ref r3)])) _
    refine XS.astore X4.here hx rfl (hb hby own_d1_17) rfl rfl (l' := #[.val (.int q0), .val (.ref r4), .val (.int (4 : Int32)), .val (.int (3 : Int32)), .val (.ref r3)]) rfl ?_
    show Steps p.tables e below (T4.setTop (mkF m 19 #[.val (.int q0), .val (.ref r4), .val (.int (4 : Int32)), .val (.int (3 : Int32)), .val (.ref r3)] [])) _
    refine XS.aload X4.here hx rfl (hb hby own_d1_19) rfl rfl ?_
    show Steps p.tables e below (T4.setTop (mkF m 21 #[.val (.int q0), .val (.ref r4), .val (.int (4 : Int32)), .val (.int (3 : Int32)), .val (.ref r3)] [(.ref r3)])) _
    refine st5 _ ?_
    show Steps p.tables e below (T5.setTop (mkF m 24 #[.val (.int q0), .val (.ref r4), .val (.int (4 : Int32)), .val (.int (3 : Int32)), .val (.ref r3)] [(.int (47 : Int32))])) _
    refine XS.iloadN X5.here hx rfl (hb hby own_d1_24) rfl ?_
    show Steps p.tables e below (T5.setTop (mkF m 25 #[.val (.int q0), .val (.ref r4), .val (.int (4 : Int32)), .val (.int (3 : Int32)), .val (.ref r3)] [(.int q0), (.int (47 : Int32))])) _
    refine XS.icmpYes X5.here hx rfl (pc0 := 25) (pc' := 31) rfl (hb hby own_d1_25) rfl (feq ((Ne.symm hs47) : ¬ ((47 : Int32) = q0))).2 (by decide) (by decide) ?_
    show Steps p.tables e below (T5.setTop (mkF m 31 #[.val (.int q0), .val (.ref r4), .val (.int (4 : Int32)), .val (.int (3 : Int32)), .val (.ref r3)] [])) _
    refine XS.iinc X5.here hx rfl (hb hby own_d1_31) rfl (l' := #[.val (.int q0), .val (.ref r4), .val (.int (4 : Int32)), .val (.int ((3 : Int32) + (1 : Int32))), .val (.ref r3)]) rfl ?_
    show Steps p.tables e below (T5.setTop (mkF m 34 #[.val (.int q0), .val (.ref r4), .val (.int (4 : Int32)), .val (.int ((3 : Int32) + (1 : Int32))), .val (.ref r3)] [])) _
    rw [show ((3 : Int32) + (1 : Int32)) = (4 : Int32) from by decide]
    show Steps p.tables e below (T5.setTop (mkF m 34 #[.val (.int q0), .val (.ref r4), .val (.int (4 : Int32)), .val (.int (4 : Int32)), .val (.ref r3)] [])) _
    refine XS.goto X5.here hx rfl (pc0 := 34) (pc' := 9) rfl (hb hby own_d1_34) (by decide) (by decide) ?_
    show Steps p.tables e below (T5.setTop (mkF m 9 #[.val (.int q0), .val (.ref r4), .val (.int (4 : Int32)), .val (.int (4 : Int32)), .val (.ref r3)] [])) _
    refine XS.iloadN X5.here hx rfl (hb hby own_d1_9) rfl ?_
    show Steps p.tables e below (T5.setTop (mkF m 10 #[.val (.int q0), .val (.ref r4), .val (.int (4 : Int32)), .val (.int (4 : Int32)), .val (.ref r3)] [(.int (4 : Int32))])) _
    refine XS.iloadN X5.here hx rfl (hb hby own_d1_10) rfl ?_
    show Steps p.tables e below (T5.setTop (mkF m 11 #[.val (.int q0), .val (.ref r4), .val (.int (4 : Int32)), .val (.int (4 : Int32)), .val (.ref r3)] [(.int (4 : Int32)), (.int (4 : Int32))])) _
    refine XS.icmpYes X5.here hx rfl (pc0 := 11) (pc' := 37) rfl (hb hby own_d1_11) rfl (flt (by decide : ¬ ((4 : Int32) < (4 : Int32)))).2.1 (by decide) (by decide) ?_
    show Steps p.tables e below (T5.setTop (mkF m 37 #[.val (.int q0), .val (.ref r4), .val (.int (4 : Int32)), .val (.int (4 : Int32)), .val (.ref r3)] [])) _
    refine XS.aconstNull X5.here hx rfl (hb hby own_d1_37) ?_
    show Steps p.tables e below (T5.setTop (mkF m 38 #[.val (.int q0), .val (.ref r4), .val (.int (4 : Int32)), .val (.int (4 : Int32)), .val (.ref r3)] [.null])) _
    jvm_step X5.here [X5.here.top, hx, (hb hby own_d1_38), X5.method', Bd.returns, Value.isRef, FieldType.isReference]
    first | (intro acts; rw [hr _ acts rfl rfl rfl]) | rw [hr _ _ rfl rfl rfl]
    exact Steps.refl _
  · exact ⟨rfl, N0, e5⟩
theorem own_d2_40 : decode method_3_code 40 = .ok (.aconst_null, 1) := by decide +kernel
theorem own_d2_41 : decode method_3_code 41 = .ok (.areturn, 1) := by decide +kernel
set_option maxRecDepth 65536 in
set_option maxHeartbeats 40000000 in
theorem own_r2_15 (l : Launch) (Z : State) (a0 : Array Value) (hw : ∀ d ∈ tables_1, d.before a0 Z = true) (ws : List Jvm.Cond) (r0 : Addr) (r1 : Addr) (r2 : Addr) (r3 : Addr) (r4 : Addr) (cl_r4 : Cell) (h0 : Heap) (n0 : Nat) (Z0 : n0 ≤ h0.size) (F : own_W Z h0 r0 r1 r2 r3 r4 cl_r4) (q0 : Int32) (hs43 : ¬ (q0 = (43 : Int32))) (hs45 : ¬ (q0 = (45 : Int32))) (hs42 : ¬ (q0 = (42 : Int32))) (hs47 : ¬ (q0 = (47 : Int32))) :
    MetFree l (⟨"dragoman/OperatorBySymbolPinLaw", "expected", "(C)Ldragoman/Operator;"⟩ : MethodName) (head1 (Jvm.Cond.code (⟨"dragoman/OperatorBySymbolPinLaw", "expected", "(C)Ldragoman/Operator;"⟩ : MethodName) method_3_code 1 (some (.object "dragoman/Operator")) :: ws) ({ frames := 0, cells := 0, slots := 0, locals := 0 } : Room)) (fun a U => a = #[(.int q0)] ∧ Z.Warmed39 U.vm ∧ U.heap = h0) (fun _ _ _ _ _ => True) (fun _ U o U' => ∃ v L, o = .returned v ∧ own_Q .null h0 n0 v U'.heap L ∧ FrameEnd U o U' L ({ frames := 0, cells := 0, slots := 0, locals := 0 } : Room).cells ({ frames := 0, cells := 0, slots := 0, locals := 0 } : Room).slots) := by
  obtain ⟨S_r0, E_r0, S_r1, E_r1, S_r2, E_r2, S_r3, E_r3, S_r4, Ar_r4, Sz_r4, El_r4_0, F_r0_symbol, El_r4_1, F_r1_symbol, El_r4_2, F_r2_symbol, El_r4_3, F_r3_symbol, ne_r0_r1, ne_r0_r2, ne_r0_r3, ne_r1_r2, ne_r1_r3, ne_r2_r3⟩ := id F
  refine MetFree.of_bodySF (plainFor_of_name own_pn_OperatorBySymbolPinLaw) hisR ?_
  intro p e s m args below meth c s₁ Bd hml0 hP hK
  obtain ⟨rfl, hZ, hh⟩ := hP
  have hx := Bd.exec
  have hby := Bd.bytes
  have hml : c.maxLocals = 1 := hml0
  have hown : s.vm.findClass "dragoman/OperatorBySymbolPinLaw" = some m.cls := findClass_of_methodNamed Bd.named
  have X0 : Stand p l e ({ frames := 0, cells := 0, slots := 0, locals := 0 } : Room) s m #[(.int q0)] below meth c s₁ [] 0 0 := Stand.of_body Bd
  have e0 : s₁.heap = h0 := by rw [← hh, Bd.state]; rfl
  have N0 := Fr.nil n0
  have pre0 : ∀ t, Steps p.tables e below (s₁.setTop (mkF m 0 #[.val (.int q0)] [])) t → Steps p.tables e below (s₁.setTop (entryFrame m #[(.int q0)] 1)) t := fun t k => castTop (own_ef2_I m q0) k
  obtain ⟨fs, hr, hrun, hended, hW, hsame⟩ := X0.leave (v := some .null) (fun h => by rw [Bd.returns] at h; cases h)
  refine ⟨_, _, pre0 _ ?_, hrun, hended, _, _, rfl, ?_, ⟨_, rfl⟩, hW, hsame.mono (by decide) (by decide)⟩
  · show Steps p.tables e below (s₁.setTop (mkF m 0 #[.val (.int q0)] [])) _
    refine XS.iloadN X0.here hx rfl (hb hby own_d2_0) rfl ?_
    show Steps p.tables e below (s₁.setTop (mkF m 1 #[.val (.int q0)] [(.int q0)])) _
    refine XS.bipush X0.here hx rfl (hb hby own_d2_1) ?_
    show Steps p.tables e below (s₁.setTop (mkF m 3 #[.val (.int q0)] [(.int (43 : Int32)), (.int q0)])) _
    refine XS.icmpYes X0.here hx rfl (pc0 := 3) (pc' := 10) rfl (hb hby own_d2_3) rfl (feq (hs43 : ¬ (q0 = (43 : Int32)))).2 (by decide) (by decide) ?_
    show Steps p.tables e below (s₁.setTop (mkF m 10 #[.val (.int q0)] [])) _
    refine XS.iloadN X0.here hx rfl (hb hby own_d2_10) rfl ?_
    show Steps p.tables e below (s₁.setTop (mkF m 11 #[.val (.int q0)] [(.int q0)])) _
    refine XS.bipush X0.here hx rfl (hb hby own_d2_11) ?_
    show Steps p.tables e below (s₁.setTop (mkF m 13 #[.val (.int q0)] [(.int (45 : Int32)), (.int q0)])) _
    refine XS.icmpYes X0.here hx rfl (pc0 := 13) (pc' := 20) rfl (hb hby own_d2_13) rfl (feq (hs45 : ¬ (q0 = (45 : Int32)))).2 (by decide) (by decide) ?_
    show Steps p.tables e below (s₁.setTop (mkF m 20 #[.val (.int q0)] [])) _
    refine XS.iloadN X0.here hx rfl (hb hby own_d2_20) rfl ?_
    show Steps p.tables e below (s₁.setTop (mkF m 21 #[.val (.int q0)] [(.int q0)])) _
    refine XS.bipush X0.here hx rfl (hb hby own_d2_21) ?_
    show Steps p.tables e below (s₁.setTop (mkF m 23 #[.val (.int q0)] [(.int (42 : Int32)), (.int q0)])) _
    refine XS.icmpYes X0.here hx rfl (pc0 := 23) (pc' := 30) rfl (hb hby own_d2_23) rfl (feq (hs42 : ¬ (q0 = (42 : Int32)))).2 (by decide) (by decide) ?_
    show Steps p.tables e below (s₁.setTop (mkF m 30 #[.val (.int q0)] [])) _
    refine XS.iloadN X0.here hx rfl (hb hby own_d2_30) rfl ?_
    show Steps p.tables e below (s₁.setTop (mkF m 31 #[.val (.int q0)] [(.int q0)])) _
    refine XS.bipush X0.here hx rfl (hb hby own_d2_31) ?_
    show Steps p.tables e below (s₁.setTop (mkF m 33 #[.val (.int q0)] [(.int (47 : Int32)), (.int q0)])) _
    refine XS.icmpYes X0.here hx rfl (pc0 := 33) (pc' := 40) rfl (hb hby own_d2_33) rfl (feq (hs47 : ¬ (q0 = (47 : Int32)))).2 (by decide) (by decide) ?_
    show Steps p.tables e below (s₁.setTop (mkF m 40 #[.val (.int q0)] [])) _
    refine XS.aconstNull X0.here hx rfl (hb hby own_d2_40) ?_
    show Steps p.tables e below (s₁.setTop (mkF m 41 #[.val (.int q0)] [.null])) _
    jvm_step X0.here [X0.here.top, hx, (hb hby own_d2_41), X0.method', Bd.returns, Value.isRef, FieldType.isReference]
    first | (intro acts; rw [hr _ acts rfl rfl rfl]) | rw [hr _ _ rfl rfl rfl]
    exact Steps.refl _
  · exact ⟨rfl, N0, e0⟩
set_option maxRecDepth 65536 in
set_option maxHeartbeats 40000000 in
theorem own_r0_m0q4 (l : Launch) (Z : State) (a0 : Array Value) (hw : ∀ d ∈ tables_1, d.before a0 Z = true) (ws : List Jvm.Cond) (r0 : Addr) (r1 : Addr) (r2 : Addr) (r3 : Addr) (r4 : Addr) (cl_r4 : Cell) (h0 : Heap) (n0 : Nat) (Z0 : n0 ≤ h0.size) (F : own_W Z h0 r0 r1 r2 r3 r4 cl_r4) (i0 : Int32) (i1 : Int32) (hm : (i1 &&& (3 : Int32)) = (0 : Int32)) (hs43 : ¬ (((i0 &&& (65535 : Int32)).toUInt32.toUInt16.toUInt32.toInt32) = (43 : Int32))) (hs45 : ¬ (((i0 &&& (65535 : Int32)).toUInt32.toUInt16.toUInt32.toInt32) = (45 : Int32))) (hs42 : ¬ (((i0 &&& (65535 : Int32)).toUInt32.toUInt16.toUInt32.toInt32) = (42 : Int32))) (hs47 : ¬ (((i0 &&& (65535 : Int32)).toUInt32.toUInt16.toUInt32.toInt32) = (47 : Int32))) :
    MetFree l x (head1 (Jvm.Cond.code x code maxLocals ret :: ws) room_1) (fun a U => a = #[(.int i0), (.int i1)] ∧ Z.Warmed39 U.vm ∧ U.heap = h0) (fun _ _ _ _ _ => True) (fun _ U o U' => ∃ v L, o = .returned v ∧ own_Q0 (.int (1 : Int32)) n0 v U'.heap L ∧ FrameEnd U o U' L room_1.cells room_1.slots) := by
  obtain ⟨S_r0, E_r0, S_r1, E_r1, S_r2, E_r2, S_r3, E_r3, S_r4, Ar_r4, Sz_r4, El_r4_0, F_r0_symbol, El_r4_1, F_r1_symbol, El_r4_2, F_r2_symbol, El_r4_3, F_r3_symbol, ne_r0_r1, ne_r0_r2, ne_r0_r3, ne_r1_r2, ne_r1_r3, ne_r2_r3⟩ := id F
  refine MetFree.of_bodySF (plainFor_of_name own_pn_OperatorBySymbolPinLaw) hisR ?_
  intro p e s m args below meth c s₁ Bd hml0 hP hK
  obtain ⟨rfl, hZ, hh⟩ := hP
  have hx := Bd.exec
  have hby := Bd.bytes
  have hml : c.maxLocals = 6 := hml0
  have hown : s.vm.findClass "dragoman/OperatorBySymbolPinLaw" = some m.cls := findClass_of_methodNamed Bd.named
  have X0 : Stand p l e room_1 s m #[(.int i0), (.int i1)] below meth c s₁ [] 0 0 := Stand.of_body Bd
  have e0 : s₁.heap = h0 := by rw [← hh, Bd.state]; rfl
  have N0 := Fr.nil n0
  have pre0 : ∀ t, Steps p.tables e below (s₁.setTop (mkF m 0 #[.val (.int i0), .val (.int i1), .unset, .unset, .unset, .unset] [])) t → Steps p.tables e below (s₁.setTop (entryFrame m #[(.int i0), (.int i1)] maxLocals)) t := fun t k => castTop (own_ef0_II m i0 i1) k
  obtain ⟨_, _, ⟨T1, L1, k1, n1⟩, -, X1, ⟨Lc1, hQ1, l1, y1, z1⟩, st1⟩ := Jvm.LawKit.callS X0 hx (y := (⟨"dragoman/Operator", "bySymbol", "(C)Ldragoman/Operator;"⟩ : MethodName)) hown (mvT hZ (hw _ (List.mem_of_getElem? (i := 1) rfl))) (mvT hZ (hw _ (List.mem_of_getElem? (i := 2) rfl))) (mvT hZ (hw _ (List.mem_of_getElem? (i := 3) rfl))) (mvT hZ (hw _ (List.mem_of_getElem? (i := 4) rfl))) (by decide) (backOf (W := 0) (own_r1_14 l Z a0 hw [] r0 r1 r2 r3 r4 cl_r4 h0 n0 Z0 F ((i0 &&& (65535 : Int32)).toUInt32.toUInt16.toUInt32.toInt32) hs43 hs45 hs42 hs47) hZ (hw _ (List.mem_of_getElem? (i := 4) rfl)) (hw _ (List.mem_of_getElem? (i := 3) rfl)) (by decide) (by decide)) (g := (mkF m 67 #[.val (.int i0), .val (.int i1), .val (.int (0 : Int32)), .val (.int ((i0 &&& (65535 : Int32)).toUInt32.toUInt16.toUInt32.toInt32)), .unset, .unset] [(.int ((i0 &&& (65535 : Int32)).toUInt32.toUInt16.toUInt32.toInt32))])) rfl (by rw [hml]; rfl) (argsL := [(.int ((i0 &&& (65535 : Int32)).toUInt32.toUInt16.toUInt32.toInt32))]) (rest := []) (lenOf own_pd0 rfl) rfl (by show 2 * 0 + _ ≤ _; exact Nat.le_of_eq rfl) (hb hby at_67) (fun _ _ => ⟨rfl, e0, (by decide : 0 + 0 ≤ _), (by decide : 0 + 0 ≤ _)⟩)
  dsimp only [Pt.U, Pt.locs, Pt.cells, Pt.slots] at X1 l1 y1 z1 st1 hQ1
  subst l1 y1 z1
  obtain ⟨rfl, N1q, e1⟩ := hQ1
  have N1 := Fr.app N0 N1q
  obtain ⟨_, _, ⟨T2, L2, k2, n2⟩, -, X2, ⟨Lc2, hQ2, l2, y2, z2⟩, st2⟩ := Jvm.LawKit.callS X1 hx (y := (⟨"dragoman/OperatorBySymbolPinLaw", "expected", "(C)Ldragoman/Operator;"⟩ : MethodName)) hown (mvT hZ (hw _ (List.mem_of_getElem? (i := 10) rfl))) (mvT hZ (hw _ (List.mem_of_getElem? (i := 11) rfl))) (mvT hZ (hw _ (List.mem_of_getElem? (i := 12) rfl))) (mvT hZ (hw _ (List.mem_of_getElem? (i := 13) rfl))) (by decide) (backOf (W := 0) (own_r2_15 l Z a0 hw [] r0 r1 r2 r3 r4 cl_r4 h0 n0 Z0 F ((i0 &&& (65535 : Int32)).toUInt32.toUInt16.toUInt32.toInt32) hs43 hs45 hs42 hs47) hZ (hw _ (List.mem_of_getElem? (i := 13) rfl)) (hw _ (List.mem_of_getElem? (i := 12) rfl)) (by decide) (by decide)) (g := (mkF m 73 #[.val (.int i0), .val (.int i1), .val (.int (0 : Int32)), .val (.int ((i0 &&& (65535 : Int32)).toUInt32.toUInt16.toUInt32.toInt32)), .val .null, .unset] [(.int ((i0 &&& (65535 : Int32)).toUInt32.toUInt16.toUInt32.toInt32))])) rfl (by rw [hml]; rfl) (argsL := [(.int ((i0 &&& (65535 : Int32)).toUInt32.toUInt16.toUInt32.toInt32))]) (rest := []) (lenOf own_pd0 rfl) rfl (by show 2 * 0 + _ ≤ _; exact Nat.le_of_eq rfl) (hb hby at_73) (fun _ _ => ⟨rfl, e1, (by decide : 0 + 0 ≤ _), (by decide : 0 + 0 ≤ _)⟩)
  dsimp only [Pt.U, Pt.locs, Pt.cells, Pt.slots] at X2 l2 y2 z2 st2 hQ2
  subst l2 y2 z2
  obtain ⟨rfl, N2q, e2⟩ := hQ2
  have N2 := Fr.app N1 N2q
  obtain ⟨fs, hr, hrun, hended, hW, hsame⟩ := X2.leave (v := some (.int (1 : Int32))) (fun h => by rw [Bd.returns] at h; cases h)
  refine ⟨_, _, pre0 _ ?_, hrun, hended, _, _, rfl, ?_, ⟨_, rfl⟩, hW, hsame.mono (by decide) (by decide)⟩
  · show Steps p.tables e below (s₁.setTop (mkF m 0 #[.val (.int i0), .val (.int i1), .unset, .unset, .unset, .unset] [])) _
    refine XS.iloadN X0.here hx rfl (hb hby at_0) rfl ?_
    show Steps p.tables e below (s₁.setTop (mkF m 1 #[.val (.int i0), .val (.int i1), .unset, .unset, .unset, .unset] [(.int i1)])) _
    refine XS.iconst X0.here hx rfl (hb hby at_1) ?_
    show Steps p.tables e below (s₁.setTop (mkF m 2 #[.val (.int i0), .val (.int i1), .unset, .unset, .unset, .unset] [(.int (3 : Int32)), (.int i1)])) _
    refine XS.iand X0.here hx rfl (hb hby at_2) rfl ?_
    show Steps p.tables e below (s₁.setTop (mkF m 3 #[.val (.int i0), .val (.int i1), .unset, .unset, .unset, .unset] [(.int (i1 &&& (3 : Int32)))])) _
    rw [hm]
    show Steps p.tables e below (s₁.setTop (mkF m 3 #[.val (.int i0), .val (.int i1), .unset, .unset, .unset, .unset] [(.int (0 : Int32))])) _
    refine XS.istoreN X0.here hx rfl (hb hby at_3) rfl (l' := #[.val (.int i0), .val (.int i1), .val (.int (0 : Int32)), .unset, .unset, .unset]) rfl ?_
    show Steps p.tables e below (s₁.setTop (mkF m 4 #[.val (.int i0), .val (.int i1), .val (.int (0 : Int32)), .unset, .unset, .unset] [])) _
    refine XS.iloadN X0.here hx rfl (hb hby at_4) rfl ?_
    show Steps p.tables e below (s₁.setTop (mkF m 5 #[.val (.int i0), .val (.int i1), .val (.int (0 : Int32)), .unset, .unset, .unset] [(.int (0 : Int32))])) _
    refine XS.ifNo X0.here hx rfl (hb hby at_5) rfl ((if0 _ _).trans (teq (by decide : (0 : Int32) = (0 : Int32))).2) ?_
    show Steps p.tables e below (s₁.setTop (mkF m 8 #[.val (.int i0), .val (.int i1), .val (.int (0 : Int32)), .unset, .unset, .unset] [])) _
    refine XS.iloadN X0.here hx rfl (hb hby at_8) rfl ?_
    show Steps p.tables e below (s₁.setTop (mkF m 9 #[.val (.int i0), .val (.int i1), .val (.int (0 : Int32)), .unset, .unset, .unset] [(.int i0)])) _
    refine X0.ldcInt hx hown (mvT hZ (hw _ (List.mem_of_getElem? (i := 18) rfl))) (g := (mkF m 9 #[.val (.int i0), .val (.int i1), .val (.int (0 : Int32)), .unset, .unset, .unset] [(.int i0)])) rfl (hb hby at_9) _ ?_
    show Steps p.tables e below (s₁.setTop (mkF m 11 #[.val (.int i0), .val (.int i1), .val (.int (0 : Int32)), .unset, .unset, .unset] [(.int (65535 : Int32)), (.int i0)])) _
    refine XS.iand X0.here hx rfl (hb hby at_11) rfl ?_
    show Steps p.tables e below (s₁.setTop (mkF m 12 #[.val (.int i0), .val (.int i1), .val (.int (0 : Int32)), .unset, .unset, .unset] [(.int (i0 &&& (65535 : Int32)))])) _
    refine XS.i2c X0.here hx rfl (hb hby at_12) rfl ?_
    show Steps p.tables e below (s₁.setTop (mkF m 13 #[.val (.int i0), .val (.int i1), .val (.int (0 : Int32)), .unset, .unset, .unset] [(.int ((i0 &&& (65535 : Int32)).toUInt32.toUInt16.toUInt32.toInt32))])) _
    refine XS.istoreN X0.here hx rfl (hb hby at_13) rfl (l' := #[.val (.int i0), .val (.int i1), .val (.int (0 : Int32)), .val (.int ((i0 &&& (65535 : Int32)).toUInt32.toUInt16.toUInt32.toInt32)), .unset, .unset]) rfl ?_
    show Steps p.tables e below (s₁.setTop (mkF m 14 #[.val (.int i0), .val (.int i1), .val (.int (0 : Int32)), .val (.int ((i0 &&& (65535 : Int32)).toUInt32.toUInt16.toUInt32.toInt32)), .unset, .unset] [])) _
    refine XS.goto X0.here hx rfl (pc0 := 14) (pc' := 66) rfl (hb hby at_14) (by decide) (by decide) ?_
    show Steps p.tables e below (s₁.setTop (mkF m 66 #[.val (.int i0), .val (.int i1), .val (.int (0 : Int32)), .val (.int ((i0 &&& (65535 : Int32)).toUInt32.toUInt16.toUInt32.toInt32)), .unset, .unset] [])) _
    refine XS.iloadN X0.here hx rfl (hb hby at_66) rfl ?_
    show Steps p.tables e below (s₁.setTop (mkF m 67 #[.val (.int i0), .val (.int i1), .val (.int (0 : Int32)), .val (.int ((i0 &&& (65535 : Int32)).toUInt32.toUInt16.toUInt32.toInt32)), .unset, .unset] [(.int ((i0 &&& (65535 : Int32)).toUInt32.toUInt16.toUInt32.toInt32))])) _
    refine st1 _ ?_
    show Steps p.tables e below (T1.setTop (mkF m 70 #[.val (.int i0), .val (.int i1), .val (.int (0 : Int32)), .val (.int ((i0 &&& (65535 : Int32)).toUInt32.toUInt16.toUInt32.toInt32)), .unset, .unset] [.null])) _
    refine XS.astore X1.here hx rfl (hb hby at_70) rfl rfl (l' := #[.val (.int i0), .val (.int i1), .val (.int (0 : Int32)), .val (.int ((i0 &&& (65535 : Int32)).toUInt32.toUInt16.toUInt32.toInt32)), .val .null, .unset]) rfl ?_
    show Steps p.tables e below (T1.setTop (mkF m 72 #[.val (.int i0), .val (.int i1), .val (.int (0 : Int32)), .val (.int ((i0 &&& (65535 : Int32)).toUInt32.toUInt16.toUInt32.toInt32)), .val .null, .unset] [])) _
    refine XS.iloadN X1.here hx rfl (hb hby at_72) rfl ?_
    show Steps p.tables e below (T1.setTop (mkF m 73 #[.val (.int i0), .val (.int i1), .val (.int (0 : Int32)), .val (.int ((i0 &&& (65535 : Int32)).toUInt32.toUInt16.toUInt32.toInt32)), .val .null, .unset] [(.int ((i0 &&& (65535 : Int32)).toUInt32.toUInt16.toUInt32.toInt32))])) _
    refine st2 _ ?_
    show Steps p.tables e below (T2.setTop (mkF m 76 #[.val (.int i0), .val (.int i1), .val (.int (0 : Int32)), .val (.int ((i0 &&& (65535 : Int32)).toUInt32.toUInt16.toUInt32.toInt32)), .val .null, .unset] [.null])) _
    refine XS.astore X2.here hx rfl (hb hby at_76) rfl rfl (l' := #[.val (.int i0), .val (.int i1), .val (.int (0 : Int32)), .val (.int ((i0 &&& (65535 : Int32)).toUInt32.toUInt16.toUInt32.toInt32)), .val .null, .val .null]) rfl ?_
    show Steps p.tables e below (T2.setTop (mkF m 78 #[.val (.int i0), .val (.int i1), .val (.int (0 : Int32)), .val (.int ((i0 &&& (65535 : Int32)).toUInt32.toUInt16.toUInt32.toInt32)), .val .null, .val .null] [])) _
    refine XS.aload X2.here hx rfl (hb hby at_78) rfl rfl ?_
    show Steps p.tables e below (T2.setTop (mkF m 80 #[.val (.int i0), .val (.int i1), .val (.int (0 : Int32)), .val (.int ((i0 &&& (65535 : Int32)).toUInt32.toUInt16.toUInt32.toInt32)), .val .null, .val .null] [.null])) _
    refine XS.aload X2.here hx rfl (hb hby at_80) rfl rfl ?_
    show Steps p.tables e below (T2.setTop (mkF m 82 #[.val (.int i0), .val (.int i1), .val (.int (0 : Int32)), .val (.int ((i0 &&& (65535 : Int32)).toUInt32.toUInt16.toUInt32.toInt32)), .val .null, .val .null] [.null, .null])) _
    refine Jvm.RoadKit.acmp (g := (mkF m 82 #[.val (.int i0), .val (.int i1), .val (.int (0 : Int32)), .val (.int ((i0 &&& (65535 : Int32)).toUInt32.toUInt16.toUInt32.toInt32)), .val .null, .val .null] [.null, .null])) X2 hx rfl rfl rfl (pc0 := 82) (pc' := 85) (same := true) rfl (hb hby at_82) rfl (decide_eq_true rfl) (by decide) (by decide) ?_
    show Steps p.tables e below (T2.setTop (mkF m 85 #[.val (.int i0), .val (.int i1), .val (.int (0 : Int32)), .val (.int ((i0 &&& (65535 : Int32)).toUInt32.toUInt16.toUInt32.toInt32)), .val .null, .val .null] [])) _
    refine XS.iconst X2.here hx rfl (hb hby at_85) ?_
    show Steps p.tables e below (T2.setTop (mkF m 86 #[.val (.int i0), .val (.int i1), .val (.int (0 : Int32)), .val (.int ((i0 &&& (65535 : Int32)).toUInt32.toUInt16.toUInt32.toInt32)), .val .null, .val .null] [(.int (1 : Int32))])) _
    refine XS.goto X2.here hx rfl (pc0 := 86) (pc' := 90) rfl (hb hby at_86) (by decide) (by decide) ?_
    show Steps p.tables e below (T2.setTop (mkF m 90 #[.val (.int i0), .val (.int i1), .val (.int (0 : Int32)), .val (.int ((i0 &&& (65535 : Int32)).toUInt32.toUInt16.toUInt32.toInt32)), .val .null, .val .null] [(.int (1 : Int32))])) _
    exact retN X2 hx (t := .boolean) Bd.returns (by simp) (hb hby at_90) hr
  · exact ⟨rfl, N2⟩
set_option maxRecDepth 65536 in
set_option maxHeartbeats 40000000 in
theorem own_r0_m1q0 (l : Launch) (Z : State) (a0 : Array Value) (hw : ∀ d ∈ tables_1, d.before a0 Z = true) (ws : List Jvm.Cond) (r0 : Addr) (r1 : Addr) (r2 : Addr) (r3 : Addr) (r4 : Addr) (cl_r4 : Cell) (h0 : Heap) (n0 : Nat) (Z0 : n0 ≤ h0.size) (F : own_W Z h0 r0 r1 r2 r3 r4 cl_r4) (i0 : Int32) (i1 : Int32) (hm : (i1 &&& (3 : Int32)) = (1 : Int32)) (hs43 : (((40 : Int32) + (i0 &&& (15 : Int32))).toUInt32.toUInt16.toUInt32.toInt32) = (43 : Int32)) :
    MetFree l x (head1 (Jvm.Cond.code x code maxLocals ret :: ws) room_1) (fun a U => a = #[(.int i0), (.int i1)] ∧ Z.Warmed39 U.vm ∧ U.heap = h0) (fun _ _ _ _ _ => True) (fun _ U o U' => ∃ v L, o = .returned v ∧ own_Q0 (.int (1 : Int32)) n0 v U'.heap L ∧ FrameEnd U o U' L room_1.cells room_1.slots) := by
  obtain ⟨S_r0, E_r0, S_r1, E_r1, S_r2, E_r2, S_r3, E_r3, S_r4, Ar_r4, Sz_r4, El_r4_0, F_r0_symbol, El_r4_1, F_r1_symbol, El_r4_2, F_r2_symbol, El_r4_3, F_r3_symbol, ne_r0_r1, ne_r0_r2, ne_r0_r3, ne_r1_r2, ne_r1_r3, ne_r2_r3⟩ := id F
  refine MetFree.of_bodySF (plainFor_of_name own_pn_OperatorBySymbolPinLaw) hisR ?_
  intro p e s m args below meth c s₁ Bd hml0 hP hK
  obtain ⟨rfl, hZ, hh⟩ := hP
  have hx := Bd.exec
  have hby := Bd.bytes
  have hml : c.maxLocals = 6 := hml0
  have hown : s.vm.findClass "dragoman/OperatorBySymbolPinLaw" = some m.cls := findClass_of_methodNamed Bd.named
  have X0 : Stand p l e room_1 s m #[(.int i0), (.int i1)] below meth c s₁ [] 0 0 := Stand.of_body Bd
  have e0 : s₁.heap = h0 := by rw [← hh, Bd.state]; rfl
  have N0 := Fr.nil n0
  have pre0 : ∀ t, Steps p.tables e below (s₁.setTop (mkF m 0 #[.val (.int i0), .val (.int i1), .unset, .unset, .unset, .unset] [])) t → Steps p.tables e below (s₁.setTop (entryFrame m #[(.int i0), (.int i1)] maxLocals)) t := fun t k => castTop (own_ef0_II m i0 i1) k
  obtain ⟨_, _, ⟨T1, L1, k1, n1⟩, -, X1, ⟨Lc1, hQ1, l1, y1, z1⟩, st1⟩ := Jvm.LawKit.callS X0 hx (y := (⟨"dragoman/Operator", "bySymbol", "(C)Ldragoman/Operator;"⟩ : MethodName)) hown (mvT hZ (hw _ (List.mem_of_getElem? (i := 1) rfl))) (mvT hZ (hw _ (List.mem_of_getElem? (i := 2) rfl))) (mvT hZ (hw _ (List.mem_of_getElem? (i := 3) rfl))) (mvT hZ (hw _ (List.mem_of_getElem? (i := 4) rfl))) (by decide) (backOf (W := 0) (own_r1_2 l Z a0 hw [] r0 r1 r2 r3 r4 cl_r4 h0 n0 Z0 F (((40 : Int32) + (i0 &&& (15 : Int32))).toUInt32.toUInt16.toUInt32.toInt32) hs43) hZ (hw _ (List.mem_of_getElem? (i := 4) rfl)) (hw _ (List.mem_of_getElem? (i := 3) rfl)) (by decide) (by decide)) (g := (mkF m 67 #[.val (.int i0), .val (.int i1), .val (.int (1 : Int32)), .val (.int (((40 : Int32) + (i0 &&& (15 : Int32))).toUInt32.toUInt16.toUInt32.toInt32)), .unset, .unset] [(.int (((40 : Int32) + (i0 &&& (15 : Int32))).toUInt32.toUInt16.toUInt32.toInt32))])) rfl (by rw [hml]; rfl) (argsL := [(.int (((40 : Int32) + (i0 &&& (15 : Int32))).toUInt32.toUInt16.toUInt32.toInt32))]) (rest := []) (lenOf own_pd0 rfl) rfl (by show 2 * 0 + _ ≤ _; exact Nat.le_of_eq rfl) (hb hby at_67) (fun _ _ => ⟨rfl, e0, (by decide : 0 + 0 ≤ _), (by decide : 0 + 0 ≤ _)⟩)
  dsimp only [Pt.U, Pt.locs, Pt.cells, Pt.slots] at X1 l1 y1 z1 st1 hQ1
  subst l1 y1 z1
  obtain ⟨rfl, N1q, e1⟩ := hQ1
  have N1 := Fr.app N0 N1q
  obtain ⟨_, _, ⟨T2, L2, k2, n2⟩, -, X2, ⟨Lc2, hQ2, l2, y2, z2⟩, st2⟩ := Jvm.LawKit.callS X1 hx (y := (⟨"dragoman/OperatorBySymbolPinLaw", "expected", "(C)Ldragoman/Operator;"⟩ : MethodName)) hown (mvT hZ (hw _ (List.mem_of_getElem? (i := 10) rfl))) (mvT hZ (hw _ (List.mem_of_getElem? (i := 11) rfl))) (mvT hZ (hw _ (List.mem_of_getElem? (i := 12) rfl))) (mvT hZ (hw _ (List.mem_of_getElem? (i := 13) rfl))) (by decide) (backOf (W := 0) (own_r2_3 l Z a0 hw [] r0 r1 r2 r3 r4 cl_r4 h0 n0 Z0 F (((40 : Int32) + (i0 &&& (15 : Int32))).toUInt32.toUInt16.toUInt32.toInt32) hs43) hZ (hw _ (List.mem_of_getElem? (i := 13) rfl)) (hw _ (List.mem_of_getElem? (i := 12) rfl)) (by decide) (by decide)) (g := (mkF m 73 #[.val (.int i0), .val (.int i1), .val (.int (1 : Int32)), .val (.int (((40 : Int32) + (i0 &&& (15 : Int32))).toUInt32.toUInt16.toUInt32.toInt32)), .val (.ref r0), .unset] [(.int (((40 : Int32) + (i0 &&& (15 : Int32))).toUInt32.toUInt16.toUInt32.toInt32))])) rfl (by rw [hml]; rfl) (argsL := [(.int (((40 : Int32) + (i0 &&& (15 : Int32))).toUInt32.toUInt16.toUInt32.toInt32))]) (rest := []) (lenOf own_pd0 rfl) rfl (by show 2 * 0 + _ ≤ _; exact Nat.le_of_eq rfl) (hb hby at_73) (fun _ _ => ⟨rfl, e1, (by decide : 0 + 0 ≤ _), (by decide : 0 + 0 ≤ _)⟩)
  dsimp only [Pt.U, Pt.locs, Pt.cells, Pt.slots] at X2 l2 y2 z2 st2 hQ2
  subst l2 y2 z2
  obtain ⟨rfl, N2q, e2⟩ := hQ2
  have N2 := Fr.app N1 N2q
  obtain ⟨fs, hr, hrun, hended, hW, hsame⟩ := X2.leave (v := some (.int (1 : Int32))) (fun h => by rw [Bd.returns] at h; cases h)
  refine ⟨_, _, pre0 _ ?_, hrun, hended, _, _, rfl, ?_, ⟨_, rfl⟩, hW, hsame.mono (by decide) (by decide)⟩
  · show Steps p.tables e below (s₁.setTop (mkF m 0 #[.val (.int i0), .val (.int i1), .unset, .unset, .unset, .unset] [])) _
    refine XS.iloadN X0.here hx rfl (hb hby at_0) rfl ?_
    show Steps p.tables e below (s₁.setTop (mkF m 1 #[.val (.int i0), .val (.int i1), .unset, .unset, .unset, .unset] [(.int i1)])) _
    refine XS.iconst X0.here hx rfl (hb hby at_1) ?_
    show Steps p.tables e below (s₁.setTop (mkF m 2 #[.val (.int i0), .val (.int i1), .unset, .unset, .unset, .unset] [(.int (3 : Int32)), (.int i1)])) _
    refine XS.iand X0.here hx rfl (hb hby at_2) rfl ?_
    show Steps p.tables e below (s₁.setTop (mkF m 3 #[.val (.int i0), .val (.int i1), .unset, .unset, .unset, .unset] [(.int (i1 &&& (3 : Int32)))])) _
    rw [hm]
    show Steps p.tables e below (s₁.setTop (mkF m 3 #[.val (.int i0), .val (.int i1), .unset, .unset, .unset, .unset] [(.int (1 : Int32))])) _
    refine XS.istoreN X0.here hx rfl (hb hby at_3) rfl (l' := #[.val (.int i0), .val (.int i1), .val (.int (1 : Int32)), .unset, .unset, .unset]) rfl ?_
    show Steps p.tables e below (s₁.setTop (mkF m 4 #[.val (.int i0), .val (.int i1), .val (.int (1 : Int32)), .unset, .unset, .unset] [])) _
    refine XS.iloadN X0.here hx rfl (hb hby at_4) rfl ?_
    show Steps p.tables e below (s₁.setTop (mkF m 5 #[.val (.int i0), .val (.int i1), .val (.int (1 : Int32)), .unset, .unset, .unset] [(.int (1 : Int32))])) _
    refine XS.ifYes X0.here hx rfl (pc0 := 5) (pc' := 17) rfl (hb hby at_5) rfl ((if0 _ _).trans (feq (by decide : ¬ ((1 : Int32) = (0 : Int32)))).2) (by decide) (by decide) ?_
    show Steps p.tables e below (s₁.setTop (mkF m 17 #[.val (.int i0), .val (.int i1), .val (.int (1 : Int32)), .unset, .unset, .unset] [])) _
    refine XS.iloadN X0.here hx rfl (hb hby at_17) rfl ?_
    show Steps p.tables e below (s₁.setTop (mkF m 18 #[.val (.int i0), .val (.int i1), .val (.int (1 : Int32)), .unset, .unset, .unset] [(.int (1 : Int32))])) _
    refine XS.iconst X0.here hx rfl (hb hby at_18) ?_
    show Steps p.tables e below (s₁.setTop (mkF m 19 #[.val (.int i0), .val (.int i1), .val (.int (1 : Int32)), .unset, .unset, .unset] [(.int (1 : Int32)), (.int (1 : Int32))])) _
    refine XS.icmpNo X0.here hx rfl (hb hby at_19) rfl (teq (by decide : (1 : Int32) = (1 : Int32))).2 ?_
    show Steps p.tables e below (s₁.setTop (mkF m 22 #[.val (.int i0), .val (.int i1), .val (.int (1 : Int32)), .unset, .unset, .unset] [])) _
    refine XS.bipush X0.here hx rfl (hb hby at_22) ?_
    show Steps p.tables e below (s₁.setTop (mkF m 24 #[.val (.int i0), .val (.int i1), .val (.int (1 : Int32)), .unset, .unset, .unset] [(.int (40 : Int32))])) _
    refine XS.iloadN X0.here hx rfl (hb hby at_24) rfl ?_
    show Steps p.tables e below (s₁.setTop (mkF m 25 #[.val (.int i0), .val (.int i1), .val (.int (1 : Int32)), .unset, .unset, .unset] [(.int i0), (.int (40 : Int32))])) _
    refine XS.bipush X0.here hx rfl (hb hby at_25) ?_
    show Steps p.tables e below (s₁.setTop (mkF m 27 #[.val (.int i0), .val (.int i1), .val (.int (1 : Int32)), .unset, .unset, .unset] [(.int (15 : Int32)), (.int i0), (.int (40 : Int32))])) _
    refine XS.iand X0.here hx rfl (hb hby at_27) rfl ?_
    show Steps p.tables e below (s₁.setTop (mkF m 28 #[.val (.int i0), .val (.int i1), .val (.int (1 : Int32)), .unset, .unset, .unset] [(.int (i0 &&& (15 : Int32))), (.int (40 : Int32))])) _
    refine XS.iadd X0.here hx rfl (hb hby at_28) rfl ?_
    show Steps p.tables e below (s₁.setTop (mkF m 29 #[.val (.int i0), .val (.int i1), .val (.int (1 : Int32)), .unset, .unset, .unset] [(.int ((40 : Int32) + (i0 &&& (15 : Int32))))])) _
    refine XS.i2c X0.here hx rfl (hb hby at_29) rfl ?_
    show Steps p.tables e below (s₁.setTop (mkF m 30 #[.val (.int i0), .val (.int i1), .val (.int (1 : Int32)), .unset, .unset, .unset] [(.int (((40 : Int32) + (i0 &&& (15 : Int32))).toUInt32.toUInt16.toUInt32.toInt32))])) _
    refine XS.istoreN X0.here hx rfl (hb hby at_30) rfl (l' := #[.val (.int i0), .val (.int i1), .val (.int (1 : Int32)), .val (.int (((40 : Int32) + (i0 &&& (15 : Int32))).toUInt32.toUInt16.toUInt32.toInt32)), .unset, .unset]) rfl ?_
    show Steps p.tables e below (s₁.setTop (mkF m 31 #[.val (.int i0), .val (.int i1), .val (.int (1 : Int32)), .val (.int (((40 : Int32) + (i0 &&& (15 : Int32))).toUInt32.toUInt16.toUInt32.toInt32)), .unset, .unset] [])) _
    refine XS.goto X0.here hx rfl (pc0 := 31) (pc' := 66) rfl (hb hby at_31) (by decide) (by decide) ?_
    show Steps p.tables e below (s₁.setTop (mkF m 66 #[.val (.int i0), .val (.int i1), .val (.int (1 : Int32)), .val (.int (((40 : Int32) + (i0 &&& (15 : Int32))).toUInt32.toUInt16.toUInt32.toInt32)), .unset, .unset] [])) _
    refine XS.iloadN X0.here hx rfl (hb hby at_66) rfl ?_
    show Steps p.tables e below (s₁.setTop (mkF m 67 #[.val (.int i0), .val (.int i1), .val (.int (1 : Int32)), .val (.int (((40 : Int32) + (i0 &&& (15 : Int32))).toUInt32.toUInt16.toUInt32.toInt32)), .unset, .unset] [(.int (((40 : Int32) + (i0 &&& (15 : Int32))).toUInt32.toUInt16.toUInt32.toInt32))])) _
    refine st1 _ ?_
    show Steps p.tables e below (T1.setTop (mkF m 70 #[.val (.int i0), .val (.int i1), .val (.int (1 : Int32)), .val (.int (((40 : Int32) + (i0 &&& (15 : Int32))).toUInt32.toUInt16.toUInt32.toInt32)), .unset, .unset] [(.ref r0)])) _
    refine XS.astore X1.here hx rfl (hb hby at_70) rfl rfl (l' := #[.val (.int i0), .val (.int i1), .val (.int (1 : Int32)), .val (.int (((40 : Int32) + (i0 &&& (15 : Int32))).toUInt32.toUInt16.toUInt32.toInt32)), .val (.ref r0), .unset]) rfl ?_
    show Steps p.tables e below (T1.setTop (mkF m 72 #[.val (.int i0), .val (.int i1), .val (.int (1 : Int32)), .val (.int (((40 : Int32) + (i0 &&& (15 : Int32))).toUInt32.toUInt16.toUInt32.toInt32)), .val (.ref r0), .unset] [])) _
    refine XS.iloadN X1.here hx rfl (hb hby at_72) rfl ?_
    show Steps p.tables e below (T1.setTop (mkF m 73 #[.val (.int i0), .val (.int i1), .val (.int (1 : Int32)), .val (.int (((40 : Int32) + (i0 &&& (15 : Int32))).toUInt32.toUInt16.toUInt32.toInt32)), .val (.ref r0), .unset] [(.int (((40 : Int32) + (i0 &&& (15 : Int32))).toUInt32.toUInt16.toUInt32.toInt32))])) _
    refine st2 _ ?_
    show Steps p.tables e below (T2.setTop (mkF m 76 #[.val (.int i0), .val (.int i1), .val (.int (1 : Int32)), .val (.int (((40 : Int32) + (i0 &&& (15 : Int32))).toUInt32.toUInt16.toUInt32.toInt32)), .val (.ref r0), .unset] [(.ref r0)])) _
    refine XS.astore X2.here hx rfl (hb hby at_76) rfl rfl (l' := #[.val (.int i0), .val (.int i1), .val (.int (1 : Int32)), .val (.int (((40 : Int32) + (i0 &&& (15 : Int32))).toUInt32.toUInt16.toUInt32.toInt32)), .val (.ref r0), .val (.ref r0)]) rfl ?_
    show Steps p.tables e below (T2.setTop (mkF m 78 #[.val (.int i0), .val (.int i1), .val (.int (1 : Int32)), .val (.int (((40 : Int32) + (i0 &&& (15 : Int32))).toUInt32.toUInt16.toUInt32.toInt32)), .val (.ref r0), .val (.ref r0)] [])) _
    refine XS.aload X2.here hx rfl (hb hby at_78) rfl rfl ?_
    show Steps p.tables e below (T2.setTop (mkF m 80 #[.val (.int i0), .val (.int i1), .val (.int (1 : Int32)), .val (.int (((40 : Int32) + (i0 &&& (15 : Int32))).toUInt32.toUInt16.toUInt32.toInt32)), .val (.ref r0), .val (.ref r0)] [(.ref r0)])) _
    refine XS.aload X2.here hx rfl (hb hby at_80) rfl rfl ?_
    show Steps p.tables e below (T2.setTop (mkF m 82 #[.val (.int i0), .val (.int i1), .val (.int (1 : Int32)), .val (.int (((40 : Int32) + (i0 &&& (15 : Int32))).toUInt32.toUInt16.toUInt32.toInt32)), .val (.ref r0), .val (.ref r0)] [(.ref r0), (.ref r0)])) _
    refine Jvm.RoadKit.acmp (g := (mkF m 82 #[.val (.int i0), .val (.int i1), .val (.int (1 : Int32)), .val (.int (((40 : Int32) + (i0 &&& (15 : Int32))).toUInt32.toUInt16.toUInt32.toInt32)), .val (.ref r0), .val (.ref r0)] [(.ref r0), (.ref r0)])) X2 hx rfl rfl rfl (pc0 := 82) (pc' := 85) (same := true) rfl (hb hby at_82) rfl (decide_eq_true rfl) (by decide) (by decide) ?_
    show Steps p.tables e below (T2.setTop (mkF m 85 #[.val (.int i0), .val (.int i1), .val (.int (1 : Int32)), .val (.int (((40 : Int32) + (i0 &&& (15 : Int32))).toUInt32.toUInt16.toUInt32.toInt32)), .val (.ref r0), .val (.ref r0)] [])) _
    refine XS.iconst X2.here hx rfl (hb hby at_85) ?_
    show Steps p.tables e below (T2.setTop (mkF m 86 #[.val (.int i0), .val (.int i1), .val (.int (1 : Int32)), .val (.int (((40 : Int32) + (i0 &&& (15 : Int32))).toUInt32.toUInt16.toUInt32.toInt32)), .val (.ref r0), .val (.ref r0)] [(.int (1 : Int32))])) _
    refine XS.goto X2.here hx rfl (pc0 := 86) (pc' := 90) rfl (hb hby at_86) (by decide) (by decide) ?_
    show Steps p.tables e below (T2.setTop (mkF m 90 #[.val (.int i0), .val (.int i1), .val (.int (1 : Int32)), .val (.int (((40 : Int32) + (i0 &&& (15 : Int32))).toUInt32.toUInt16.toUInt32.toInt32)), .val (.ref r0), .val (.ref r0)] [(.int (1 : Int32))])) _
    exact retN X2 hx (t := .boolean) Bd.returns (by simp) (hb hby at_90) hr
  · exact ⟨rfl, N2⟩
set_option maxRecDepth 65536 in
set_option maxHeartbeats 40000000 in
theorem own_r0_m1q1 (l : Launch) (Z : State) (a0 : Array Value) (hw : ∀ d ∈ tables_1, d.before a0 Z = true) (ws : List Jvm.Cond) (r0 : Addr) (r1 : Addr) (r2 : Addr) (r3 : Addr) (r4 : Addr) (cl_r4 : Cell) (h0 : Heap) (n0 : Nat) (Z0 : n0 ≤ h0.size) (F : own_W Z h0 r0 r1 r2 r3 r4 cl_r4) (i0 : Int32) (i1 : Int32) (hm : (i1 &&& (3 : Int32)) = (1 : Int32)) (hs43 : ¬ ((((40 : Int32) + (i0 &&& (15 : Int32))).toUInt32.toUInt16.toUInt32.toInt32) = (43 : Int32))) (hs45 : (((40 : Int32) + (i0 &&& (15 : Int32))).toUInt32.toUInt16.toUInt32.toInt32) = (45 : Int32)) :
    MetFree l x (head1 (Jvm.Cond.code x code maxLocals ret :: ws) room_1) (fun a U => a = #[(.int i0), (.int i1)] ∧ Z.Warmed39 U.vm ∧ U.heap = h0) (fun _ _ _ _ _ => True) (fun _ U o U' => ∃ v L, o = .returned v ∧ own_Q0 (.int (1 : Int32)) n0 v U'.heap L ∧ FrameEnd U o U' L room_1.cells room_1.slots) := by
  obtain ⟨S_r0, E_r0, S_r1, E_r1, S_r2, E_r2, S_r3, E_r3, S_r4, Ar_r4, Sz_r4, El_r4_0, F_r0_symbol, El_r4_1, F_r1_symbol, El_r4_2, F_r2_symbol, El_r4_3, F_r3_symbol, ne_r0_r1, ne_r0_r2, ne_r0_r3, ne_r1_r2, ne_r1_r3, ne_r2_r3⟩ := id F
  refine MetFree.of_bodySF (plainFor_of_name own_pn_OperatorBySymbolPinLaw) hisR ?_
  intro p e s m args below meth c s₁ Bd hml0 hP hK
  obtain ⟨rfl, hZ, hh⟩ := hP
  have hx := Bd.exec
  have hby := Bd.bytes
  have hml : c.maxLocals = 6 := hml0
  have hown : s.vm.findClass "dragoman/OperatorBySymbolPinLaw" = some m.cls := findClass_of_methodNamed Bd.named
  have X0 : Stand p l e room_1 s m #[(.int i0), (.int i1)] below meth c s₁ [] 0 0 := Stand.of_body Bd
  have e0 : s₁.heap = h0 := by rw [← hh, Bd.state]; rfl
  have N0 := Fr.nil n0
  have pre0 : ∀ t, Steps p.tables e below (s₁.setTop (mkF m 0 #[.val (.int i0), .val (.int i1), .unset, .unset, .unset, .unset] [])) t → Steps p.tables e below (s₁.setTop (entryFrame m #[(.int i0), (.int i1)] maxLocals)) t := fun t k => castTop (own_ef0_II m i0 i1) k
  obtain ⟨_, _, ⟨T1, L1, k1, n1⟩, -, X1, ⟨Lc1, hQ1, l1, y1, z1⟩, st1⟩ := Jvm.LawKit.callS X0 hx (y := (⟨"dragoman/Operator", "bySymbol", "(C)Ldragoman/Operator;"⟩ : MethodName)) hown (mvT hZ (hw _ (List.mem_of_getElem? (i := 1) rfl))) (mvT hZ (hw _ (List.mem_of_getElem? (i := 2) rfl))) (mvT hZ (hw _ (List.mem_of_getElem? (i := 3) rfl))) (mvT hZ (hw _ (List.mem_of_getElem? (i := 4) rfl))) (by decide) (backOf (W := 0) (own_r1_5 l Z a0 hw [] r0 r1 r2 r3 r4 cl_r4 h0 n0 Z0 F (((40 : Int32) + (i0 &&& (15 : Int32))).toUInt32.toUInt16.toUInt32.toInt32) hs43 hs45) hZ (hw _ (List.mem_of_getElem? (i := 4) rfl)) (hw _ (List.mem_of_getElem? (i := 3) rfl)) (by decide) (by decide)) (g := (mkF m 67 #[.val (.int i0), .val (.int i1), .val (.int (1 : Int32)), .val (.int (((40 : Int32) + (i0 &&& (15 : Int32))).toUInt32.toUInt16.toUInt32.toInt32)), .unset, .unset] [(.int (((40 : Int32) + (i0 &&& (15 : Int32))).toUInt32.toUInt16.toUInt32.toInt32))])) rfl (by rw [hml]; rfl) (argsL := [(.int (((40 : Int32) + (i0 &&& (15 : Int32))).toUInt32.toUInt16.toUInt32.toInt32))]) (rest := []) (lenOf own_pd0 rfl) rfl (by show 2 * 0 + _ ≤ _; exact Nat.le_of_eq rfl) (hb hby at_67) (fun _ _ => ⟨rfl, e0, (by decide : 0 + 0 ≤ _), (by decide : 0 + 0 ≤ _)⟩)
  dsimp only [Pt.U, Pt.locs, Pt.cells, Pt.slots] at X1 l1 y1 z1 st1 hQ1
  subst l1 y1 z1
  obtain ⟨rfl, N1q, e1⟩ := hQ1
  have N1 := Fr.app N0 N1q
  obtain ⟨_, _, ⟨T2, L2, k2, n2⟩, -, X2, ⟨Lc2, hQ2, l2, y2, z2⟩, st2⟩ := Jvm.LawKit.callS X1 hx (y := (⟨"dragoman/OperatorBySymbolPinLaw", "expected", "(C)Ldragoman/Operator;"⟩ : MethodName)) hown (mvT hZ (hw _ (List.mem_of_getElem? (i := 10) rfl))) (mvT hZ (hw _ (List.mem_of_getElem? (i := 11) rfl))) (mvT hZ (hw _ (List.mem_of_getElem? (i := 12) rfl))) (mvT hZ (hw _ (List.mem_of_getElem? (i := 13) rfl))) (by decide) (backOf (W := 0) (own_r2_6 l Z a0 hw [] r0 r1 r2 r3 r4 cl_r4 h0 n0 Z0 F (((40 : Int32) + (i0 &&& (15 : Int32))).toUInt32.toUInt16.toUInt32.toInt32) hs43 hs45) hZ (hw _ (List.mem_of_getElem? (i := 13) rfl)) (hw _ (List.mem_of_getElem? (i := 12) rfl)) (by decide) (by decide)) (g := (mkF m 73 #[.val (.int i0), .val (.int i1), .val (.int (1 : Int32)), .val (.int (((40 : Int32) + (i0 &&& (15 : Int32))).toUInt32.toUInt16.toUInt32.toInt32)), .val (.ref r1), .unset] [(.int (((40 : Int32) + (i0 &&& (15 : Int32))).toUInt32.toUInt16.toUInt32.toInt32))])) rfl (by rw [hml]; rfl) (argsL := [(.int (((40 : Int32) + (i0 &&& (15 : Int32))).toUInt32.toUInt16.toUInt32.toInt32))]) (rest := []) (lenOf own_pd0 rfl) rfl (by show 2 * 0 + _ ≤ _; exact Nat.le_of_eq rfl) (hb hby at_73) (fun _ _ => ⟨rfl, e1, (by decide : 0 + 0 ≤ _), (by decide : 0 + 0 ≤ _)⟩)
  dsimp only [Pt.U, Pt.locs, Pt.cells, Pt.slots] at X2 l2 y2 z2 st2 hQ2
  subst l2 y2 z2
  obtain ⟨rfl, N2q, e2⟩ := hQ2
  have N2 := Fr.app N1 N2q
  obtain ⟨fs, hr, hrun, hended, hW, hsame⟩ := X2.leave (v := some (.int (1 : Int32))) (fun h => by rw [Bd.returns] at h; cases h)
  refine ⟨_, _, pre0 _ ?_, hrun, hended, _, _, rfl, ?_, ⟨_, rfl⟩, hW, hsame.mono (by decide) (by decide)⟩
  · show Steps p.tables e below (s₁.setTop (mkF m 0 #[.val (.int i0), .val (.int i1), .unset, .unset, .unset, .unset] [])) _
    refine XS.iloadN X0.here hx rfl (hb hby at_0) rfl ?_
    show Steps p.tables e below (s₁.setTop (mkF m 1 #[.val (.int i0), .val (.int i1), .unset, .unset, .unset, .unset] [(.int i1)])) _
    refine XS.iconst X0.here hx rfl (hb hby at_1) ?_
    show Steps p.tables e below (s₁.setTop (mkF m 2 #[.val (.int i0), .val (.int i1), .unset, .unset, .unset, .unset] [(.int (3 : Int32)), (.int i1)])) _
    refine XS.iand X0.here hx rfl (hb hby at_2) rfl ?_
    show Steps p.tables e below (s₁.setTop (mkF m 3 #[.val (.int i0), .val (.int i1), .unset, .unset, .unset, .unset] [(.int (i1 &&& (3 : Int32)))])) _
    rw [hm]
    show Steps p.tables e below (s₁.setTop (mkF m 3 #[.val (.int i0), .val (.int i1), .unset, .unset, .unset, .unset] [(.int (1 : Int32))])) _
    refine XS.istoreN X0.here hx rfl (hb hby at_3) rfl (l' := #[.val (.int i0), .val (.int i1), .val (.int (1 : Int32)), .unset, .unset, .unset]) rfl ?_
    show Steps p.tables e below (s₁.setTop (mkF m 4 #[.val (.int i0), .val (.int i1), .val (.int (1 : Int32)), .unset, .unset, .unset] [])) _
    refine XS.iloadN X0.here hx rfl (hb hby at_4) rfl ?_
    show Steps p.tables e below (s₁.setTop (mkF m 5 #[.val (.int i0), .val (.int i1), .val (.int (1 : Int32)), .unset, .unset, .unset] [(.int (1 : Int32))])) _
    refine XS.ifYes X0.here hx rfl (pc0 := 5) (pc' := 17) rfl (hb hby at_5) rfl ((if0 _ _).trans (feq (by decide : ¬ ((1 : Int32) = (0 : Int32)))).2) (by decide) (by decide) ?_
    show Steps p.tables e below (s₁.setTop (mkF m 17 #[.val (.int i0), .val (.int i1), .val (.int (1 : Int32)), .unset, .unset, .unset] [])) _
    refine XS.iloadN X0.here hx rfl (hb hby at_17) rfl ?_
    show Steps p.tables e below (s₁.setTop (mkF m 18 #[.val (.int i0), .val (.int i1), .val (.int (1 : Int32)), .unset, .unset, .unset] [(.int (1 : Int32))])) _
    refine XS.iconst X0.here hx rfl (hb hby at_18) ?_
    show Steps p.tables e below (s₁.setTop (mkF m 19 #[.val (.int i0), .val (.int i1), .val (.int (1 : Int32)), .unset, .unset, .unset] [(.int (1 : Int32)), (.int (1 : Int32))])) _
    refine XS.icmpNo X0.here hx rfl (hb hby at_19) rfl (teq (by decide : (1 : Int32) = (1 : Int32))).2 ?_
    show Steps p.tables e below (s₁.setTop (mkF m 22 #[.val (.int i0), .val (.int i1), .val (.int (1 : Int32)), .unset, .unset, .unset] [])) _
    refine XS.bipush X0.here hx rfl (hb hby at_22) ?_
    show Steps p.tables e below (s₁.setTop (mkF m 24 #[.val (.int i0), .val (.int i1), .val (.int (1 : Int32)), .unset, .unset, .unset] [(.int (40 : Int32))])) _
    refine XS.iloadN X0.here hx rfl (hb hby at_24) rfl ?_
    show Steps p.tables e below (s₁.setTop (mkF m 25 #[.val (.int i0), .val (.int i1), .val (.int (1 : Int32)), .unset, .unset, .unset] [(.int i0), (.int (40 : Int32))])) _
    refine XS.bipush X0.here hx rfl (hb hby at_25) ?_
    show Steps p.tables e below (s₁.setTop (mkF m 27 #[.val (.int i0), .val (.int i1), .val (.int (1 : Int32)), .unset, .unset, .unset] [(.int (15 : Int32)), (.int i0), (.int (40 : Int32))])) _
    refine XS.iand X0.here hx rfl (hb hby at_27) rfl ?_
    show Steps p.tables e below (s₁.setTop (mkF m 28 #[.val (.int i0), .val (.int i1), .val (.int (1 : Int32)), .unset, .unset, .unset] [(.int (i0 &&& (15 : Int32))), (.int (40 : Int32))])) _
    refine XS.iadd X0.here hx rfl (hb hby at_28) rfl ?_
    show Steps p.tables e below (s₁.setTop (mkF m 29 #[.val (.int i0), .val (.int i1), .val (.int (1 : Int32)), .unset, .unset, .unset] [(.int ((40 : Int32) + (i0 &&& (15 : Int32))))])) _
    refine XS.i2c X0.here hx rfl (hb hby at_29) rfl ?_
    show Steps p.tables e below (s₁.setTop (mkF m 30 #[.val (.int i0), .val (.int i1), .val (.int (1 : Int32)), .unset, .unset, .unset] [(.int (((40 : Int32) + (i0 &&& (15 : Int32))).toUInt32.toUInt16.toUInt32.toInt32))])) _
    refine XS.istoreN X0.here hx rfl (hb hby at_30) rfl (l' := #[.val (.int i0), .val (.int i1), .val (.int (1 : Int32)), .val (.int (((40 : Int32) + (i0 &&& (15 : Int32))).toUInt32.toUInt16.toUInt32.toInt32)), .unset, .unset]) rfl ?_
    show Steps p.tables e below (s₁.setTop (mkF m 31 #[.val (.int i0), .val (.int i1), .val (.int (1 : Int32)), .val (.int (((40 : Int32) + (i0 &&& (15 : Int32))).toUInt32.toUInt16.toUInt32.toInt32)), .unset, .unset] [])) _
    refine XS.goto X0.here hx rfl (pc0 := 31) (pc' := 66) rfl (hb hby at_31) (by decide) (by decide) ?_
    show Steps p.tables e below (s₁.setTop (mkF m 66 #[.val (.int i0), .val (.int i1), .val (.int (1 : Int32)), .val (.int (((40 : Int32) + (i0 &&& (15 : Int32))).toUInt32.toUInt16.toUInt32.toInt32)), .unset, .unset] [])) _
    refine XS.iloadN X0.here hx rfl (hb hby at_66) rfl ?_
    show Steps p.tables e below (s₁.setTop (mkF m 67 #[.val (.int i0), .val (.int i1), .val (.int (1 : Int32)), .val (.int (((40 : Int32) + (i0 &&& (15 : Int32))).toUInt32.toUInt16.toUInt32.toInt32)), .unset, .unset] [(.int (((40 : Int32) + (i0 &&& (15 : Int32))).toUInt32.toUInt16.toUInt32.toInt32))])) _
    refine st1 _ ?_
    show Steps p.tables e below (T1.setTop (mkF m 70 #[.val (.int i0), .val (.int i1), .val (.int (1 : Int32)), .val (.int (((40 : Int32) + (i0 &&& (15 : Int32))).toUInt32.toUInt16.toUInt32.toInt32)), .unset, .unset] [(.ref r1)])) _
    refine XS.astore X1.here hx rfl (hb hby at_70) rfl rfl (l' := #[.val (.int i0), .val (.int i1), .val (.int (1 : Int32)), .val (.int (((40 : Int32) + (i0 &&& (15 : Int32))).toUInt32.toUInt16.toUInt32.toInt32)), .val (.ref r1), .unset]) rfl ?_
    show Steps p.tables e below (T1.setTop (mkF m 72 #[.val (.int i0), .val (.int i1), .val (.int (1 : Int32)), .val (.int (((40 : Int32) + (i0 &&& (15 : Int32))).toUInt32.toUInt16.toUInt32.toInt32)), .val (.ref r1), .unset] [])) _
    refine XS.iloadN X1.here hx rfl (hb hby at_72) rfl ?_
    show Steps p.tables e below (T1.setTop (mkF m 73 #[.val (.int i0), .val (.int i1), .val (.int (1 : Int32)), .val (.int (((40 : Int32) + (i0 &&& (15 : Int32))).toUInt32.toUInt16.toUInt32.toInt32)), .val (.ref r1), .unset] [(.int (((40 : Int32) + (i0 &&& (15 : Int32))).toUInt32.toUInt16.toUInt32.toInt32))])) _
    refine st2 _ ?_
    show Steps p.tables e below (T2.setTop (mkF m 76 #[.val (.int i0), .val (.int i1), .val (.int (1 : Int32)), .val (.int (((40 : Int32) + (i0 &&& (15 : Int32))).toUInt32.toUInt16.toUInt32.toInt32)), .val (.ref r1), .unset] [(.ref r1)])) _
    refine XS.astore X2.here hx rfl (hb hby at_76) rfl rfl (l' := #[.val (.int i0), .val (.int i1), .val (.int (1 : Int32)), .val (.int (((40 : Int32) + (i0 &&& (15 : Int32))).toUInt32.toUInt16.toUInt32.toInt32)), .val (.ref r1), .val (.ref r1)]) rfl ?_
    show Steps p.tables e below (T2.setTop (mkF m 78 #[.val (.int i0), .val (.int i1), .val (.int (1 : Int32)), .val (.int (((40 : Int32) + (i0 &&& (15 : Int32))).toUInt32.toUInt16.toUInt32.toInt32)), .val (.ref r1), .val (.ref r1)] [])) _
    refine XS.aload X2.here hx rfl (hb hby at_78) rfl rfl ?_
    show Steps p.tables e below (T2.setTop (mkF m 80 #[.val (.int i0), .val (.int i1), .val (.int (1 : Int32)), .val (.int (((40 : Int32) + (i0 &&& (15 : Int32))).toUInt32.toUInt16.toUInt32.toInt32)), .val (.ref r1), .val (.ref r1)] [(.ref r1)])) _
    refine XS.aload X2.here hx rfl (hb hby at_80) rfl rfl ?_
    show Steps p.tables e below (T2.setTop (mkF m 82 #[.val (.int i0), .val (.int i1), .val (.int (1 : Int32)), .val (.int (((40 : Int32) + (i0 &&& (15 : Int32))).toUInt32.toUInt16.toUInt32.toInt32)), .val (.ref r1), .val (.ref r1)] [(.ref r1), (.ref r1)])) _
    refine Jvm.RoadKit.acmp (g := (mkF m 82 #[.val (.int i0), .val (.int i1), .val (.int (1 : Int32)), .val (.int (((40 : Int32) + (i0 &&& (15 : Int32))).toUInt32.toUInt16.toUInt32.toInt32)), .val (.ref r1), .val (.ref r1)] [(.ref r1), (.ref r1)])) X2 hx rfl rfl rfl (pc0 := 82) (pc' := 85) (same := true) rfl (hb hby at_82) rfl (decide_eq_true rfl) (by decide) (by decide) ?_
    show Steps p.tables e below (T2.setTop (mkF m 85 #[.val (.int i0), .val (.int i1), .val (.int (1 : Int32)), .val (.int (((40 : Int32) + (i0 &&& (15 : Int32))).toUInt32.toUInt16.toUInt32.toInt32)), .val (.ref r1), .val (.ref r1)] [])) _
    refine XS.iconst X2.here hx rfl (hb hby at_85) ?_
    show Steps p.tables e below (T2.setTop (mkF m 86 #[.val (.int i0), .val (.int i1), .val (.int (1 : Int32)), .val (.int (((40 : Int32) + (i0 &&& (15 : Int32))).toUInt32.toUInt16.toUInt32.toInt32)), .val (.ref r1), .val (.ref r1)] [(.int (1 : Int32))])) _
    refine XS.goto X2.here hx rfl (pc0 := 86) (pc' := 90) rfl (hb hby at_86) (by decide) (by decide) ?_
    show Steps p.tables e below (T2.setTop (mkF m 90 #[.val (.int i0), .val (.int i1), .val (.int (1 : Int32)), .val (.int (((40 : Int32) + (i0 &&& (15 : Int32))).toUInt32.toUInt16.toUInt32.toInt32)), .val (.ref r1), .val (.ref r1)] [(.int (1 : Int32))])) _
    exact retN X2 hx (t := .boolean) Bd.returns (by simp) (hb hby at_90) hr
  · exact ⟨rfl, N2⟩
set_option maxRecDepth 65536 in
set_option maxHeartbeats 40000000 in
theorem own_r0_m1q2 (l : Launch) (Z : State) (a0 : Array Value) (hw : ∀ d ∈ tables_1, d.before a0 Z = true) (ws : List Jvm.Cond) (r0 : Addr) (r1 : Addr) (r2 : Addr) (r3 : Addr) (r4 : Addr) (cl_r4 : Cell) (h0 : Heap) (n0 : Nat) (Z0 : n0 ≤ h0.size) (F : own_W Z h0 r0 r1 r2 r3 r4 cl_r4) (i0 : Int32) (i1 : Int32) (hm : (i1 &&& (3 : Int32)) = (1 : Int32)) (hs43 : ¬ ((((40 : Int32) + (i0 &&& (15 : Int32))).toUInt32.toUInt16.toUInt32.toInt32) = (43 : Int32))) (hs45 : ¬ ((((40 : Int32) + (i0 &&& (15 : Int32))).toUInt32.toUInt16.toUInt32.toInt32) = (45 : Int32))) (hs42 : (((40 : Int32) + (i0 &&& (15 : Int32))).toUInt32.toUInt16.toUInt32.toInt32) = (42 : Int32)) :
    MetFree l x (head1 (Jvm.Cond.code x code maxLocals ret :: ws) room_1) (fun a U => a = #[(.int i0), (.int i1)] ∧ Z.Warmed39 U.vm ∧ U.heap = h0) (fun _ _ _ _ _ => True) (fun _ U o U' => ∃ v L, o = .returned v ∧ own_Q0 (.int (1 : Int32)) n0 v U'.heap L ∧ FrameEnd U o U' L room_1.cells room_1.slots) := by
  obtain ⟨S_r0, E_r0, S_r1, E_r1, S_r2, E_r2, S_r3, E_r3, S_r4, Ar_r4, Sz_r4, El_r4_0, F_r0_symbol, El_r4_1, F_r1_symbol, El_r4_2, F_r2_symbol, El_r4_3, F_r3_symbol, ne_r0_r1, ne_r0_r2, ne_r0_r3, ne_r1_r2, ne_r1_r3, ne_r2_r3⟩ := id F
  refine MetFree.of_bodySF (plainFor_of_name own_pn_OperatorBySymbolPinLaw) hisR ?_
  intro p e s m args below meth c s₁ Bd hml0 hP hK
  obtain ⟨rfl, hZ, hh⟩ := hP
  have hx := Bd.exec
  have hby := Bd.bytes
  have hml : c.maxLocals = 6 := hml0
  have hown : s.vm.findClass "dragoman/OperatorBySymbolPinLaw" = some m.cls := findClass_of_methodNamed Bd.named
  have X0 : Stand p l e room_1 s m #[(.int i0), (.int i1)] below meth c s₁ [] 0 0 := Stand.of_body Bd
  have e0 : s₁.heap = h0 := by rw [← hh, Bd.state]; rfl
  have N0 := Fr.nil n0
  have pre0 : ∀ t, Steps p.tables e below (s₁.setTop (mkF m 0 #[.val (.int i0), .val (.int i1), .unset, .unset, .unset, .unset] [])) t → Steps p.tables e below (s₁.setTop (entryFrame m #[(.int i0), (.int i1)] maxLocals)) t := fun t k => castTop (own_ef0_II m i0 i1) k
  obtain ⟨_, _, ⟨T1, L1, k1, n1⟩, -, X1, ⟨Lc1, hQ1, l1, y1, z1⟩, st1⟩ := Jvm.LawKit.callS X0 hx (y := (⟨"dragoman/Operator", "bySymbol", "(C)Ldragoman/Operator;"⟩ : MethodName)) hown (mvT hZ (hw _ (List.mem_of_getElem? (i := 1) rfl))) (mvT hZ (hw _ (List.mem_of_getElem? (i := 2) rfl))) (mvT hZ (hw _ (List.mem_of_getElem? (i := 3) rfl))) (mvT hZ (hw _ (List.mem_of_getElem? (i := 4) rfl))) (by decide) (backOf (W := 0) (own_r1_8 l Z a0 hw [] r0 r1 r2 r3 r4 cl_r4 h0 n0 Z0 F (((40 : Int32) + (i0 &&& (15 : Int32))).toUInt32.toUInt16.toUInt32.toInt32) hs43 hs45 hs42) hZ (hw _ (List.mem_of_getElem? (i := 4) rfl)) (hw _ (List.mem_of_getElem? (i := 3) rfl)) (by decide) (by decide)) (g := (mkF m 67 #[.val (.int i0), .val (.int i1), .val (.int (1 : Int32)), .val (.int (((40 : Int32) + (i0 &&& (15 : Int32))).toUInt32.toUInt16.toUInt32.toInt32)), .unset, .unset] [(.int (((40 : Int32) + (i0 &&& (15 : Int32))).toUInt32.toUInt16.toUInt32.toInt32))])) rfl (by rw [hml]; rfl) (argsL := [(.int (((40 : Int32) + (i0 &&& (15 : Int32))).toUInt32.toUInt16.toUInt32.toInt32))]) (rest := []) (lenOf own_pd0 rfl) rfl (by show 2 * 0 + _ ≤ _; exact Nat.le_of_eq rfl) (hb hby at_67) (fun _ _ => ⟨rfl, e0, (by decide : 0 + 0 ≤ _), (by decide : 0 + 0 ≤ _)⟩)
  dsimp only [Pt.U, Pt.locs, Pt.cells, Pt.slots] at X1 l1 y1 z1 st1 hQ1
  subst l1 y1 z1
  obtain ⟨rfl, N1q, e1⟩ := hQ1
  have N1 := Fr.app N0 N1q
  obtain ⟨_, _, ⟨T2, L2, k2, n2⟩, -, X2, ⟨Lc2, hQ2, l2, y2, z2⟩, st2⟩ := Jvm.LawKit.callS X1 hx (y := (⟨"dragoman/OperatorBySymbolPinLaw", "expected", "(C)Ldragoman/Operator;"⟩ : MethodName)) hown (mvT hZ (hw _ (List.mem_of_getElem? (i := 10) rfl))) (mvT hZ (hw _ (List.mem_of_getElem? (i := 11) rfl))) (mvT hZ (hw _ (List.mem_of_getElem? (i := 12) rfl))) (mvT hZ (hw _ (List.mem_of_getElem? (i := 13) rfl))) (by decide) (backOf (W := 0) (own_r2_9 l Z a0 hw [] r0 r1 r2 r3 r4 cl_r4 h0 n0 Z0 F (((40 : Int32) + (i0 &&& (15 : Int32))).toUInt32.toUInt16.toUInt32.toInt32) hs43 hs45 hs42) hZ (hw _ (List.mem_of_getElem? (i := 13) rfl)) (hw _ (List.mem_of_getElem? (i := 12) rfl)) (by decide) (by decide)) (g := (mkF m 73 #[.val (.int i0), .val (.int i1), .val (.int (1 : Int32)), .val (.int (((40 : Int32) + (i0 &&& (15 : Int32))).toUInt32.toUInt16.toUInt32.toInt32)), .val (.ref r2), .unset] [(.int (((40 : Int32) + (i0 &&& (15 : Int32))).toUInt32.toUInt16.toUInt32.toInt32))])) rfl (by rw [hml]; rfl) (argsL := [(.int (((40 : Int32) + (i0 &&& (15 : Int32))).toUInt32.toUInt16.toUInt32.toInt32))]) (rest := []) (lenOf own_pd0 rfl) rfl (by show 2 * 0 + _ ≤ _; exact Nat.le_of_eq rfl) (hb hby at_73) (fun _ _ => ⟨rfl, e1, (by decide : 0 + 0 ≤ _), (by decide : 0 + 0 ≤ _)⟩)
  dsimp only [Pt.U, Pt.locs, Pt.cells, Pt.slots] at X2 l2 y2 z2 st2 hQ2
  subst l2 y2 z2
  obtain ⟨rfl, N2q, e2⟩ := hQ2
  have N2 := Fr.app N1 N2q
  obtain ⟨fs, hr, hrun, hended, hW, hsame⟩ := X2.leave (v := some (.int (1 : Int32))) (fun h => by rw [Bd.returns] at h; cases h)
  refine ⟨_, _, pre0 _ ?_, hrun, hended, _, _, rfl, ?_, ⟨_, rfl⟩, hW, hsame.mono (by decide) (by decide)⟩
  · show Steps p.tables e below (s₁.setTop (mkF m 0 #[.val (.int i0), .val (.int i1), .unset, .unset, .unset, .unset] [])) _
    refine XS.iloadN X0.here hx rfl (hb hby at_0) rfl ?_
    show Steps p.tables e below (s₁.setTop (mkF m 1 #[.val (.int i0), .val (.int i1), .unset, .unset, .unset, .unset] [(.int i1)])) _
    refine XS.iconst X0.here hx rfl (hb hby at_1) ?_
    show Steps p.tables e below (s₁.setTop (mkF m 2 #[.val (.int i0), .val (.int i1), .unset, .unset, .unset, .unset] [(.int (3 : Int32)), (.int i1)])) _
    refine XS.iand X0.here hx rfl (hb hby at_2) rfl ?_
    show Steps p.tables e below (s₁.setTop (mkF m 3 #[.val (.int i0), .val (.int i1), .unset, .unset, .unset, .unset] [(.int (i1 &&& (3 : Int32)))])) _
    rw [hm]
    show Steps p.tables e below (s₁.setTop (mkF m 3 #[.val (.int i0), .val (.int i1), .unset, .unset, .unset, .unset] [(.int (1 : Int32))])) _
    refine XS.istoreN X0.here hx rfl (hb hby at_3) rfl (l' := #[.val (.int i0), .val (.int i1), .val (.int (1 : Int32)), .unset, .unset, .unset]) rfl ?_
    show Steps p.tables e below (s₁.setTop (mkF m 4 #[.val (.int i0), .val (.int i1), .val (.int (1 : Int32)), .unset, .unset, .unset] [])) _
    refine XS.iloadN X0.here hx rfl (hb hby at_4) rfl ?_
    show Steps p.tables e below (s₁.setTop (mkF m 5 #[.val (.int i0), .val (.int i1), .val (.int (1 : Int32)), .unset, .unset, .unset] [(.int (1 : Int32))])) _
    refine XS.ifYes X0.here hx rfl (pc0 := 5) (pc' := 17) rfl (hb hby at_5) rfl ((if0 _ _).trans (feq (by decide : ¬ ((1 : Int32) = (0 : Int32)))).2) (by decide) (by decide) ?_
    show Steps p.tables e below (s₁.setTop (mkF m 17 #[.val (.int i0), .val (.int i1), .val (.int (1 : Int32)), .unset, .unset, .unset] [])) _
    refine XS.iloadN X0.here hx rfl (hb hby at_17) rfl ?_
    show Steps p.tables e below (s₁.setTop (mkF m 18 #[.val (.int i0), .val (.int i1), .val (.int (1 : Int32)), .unset, .unset, .unset] [(.int (1 : Int32))])) _
    refine XS.iconst X0.here hx rfl (hb hby at_18) ?_
    show Steps p.tables e below (s₁.setTop (mkF m 19 #[.val (.int i0), .val (.int i1), .val (.int (1 : Int32)), .unset, .unset, .unset] [(.int (1 : Int32)), (.int (1 : Int32))])) _
    refine XS.icmpNo X0.here hx rfl (hb hby at_19) rfl (teq (by decide : (1 : Int32) = (1 : Int32))).2 ?_
    show Steps p.tables e below (s₁.setTop (mkF m 22 #[.val (.int i0), .val (.int i1), .val (.int (1 : Int32)), .unset, .unset, .unset] [])) _
    refine XS.bipush X0.here hx rfl (hb hby at_22) ?_
    show Steps p.tables e below (s₁.setTop (mkF m 24 #[.val (.int i0), .val (.int i1), .val (.int (1 : Int32)), .unset, .unset, .unset] [(.int (40 : Int32))])) _
    refine XS.iloadN X0.here hx rfl (hb hby at_24) rfl ?_
    show Steps p.tables e below (s₁.setTop (mkF m 25 #[.val (.int i0), .val (.int i1), .val (.int (1 : Int32)), .unset, .unset, .unset] [(.int i0), (.int (40 : Int32))])) _
    refine XS.bipush X0.here hx rfl (hb hby at_25) ?_
    show Steps p.tables e below (s₁.setTop (mkF m 27 #[.val (.int i0), .val (.int i1), .val (.int (1 : Int32)), .unset, .unset, .unset] [(.int (15 : Int32)), (.int i0), (.int (40 : Int32))])) _
    refine XS.iand X0.here hx rfl (hb hby at_27) rfl ?_
    show Steps p.tables e below (s₁.setTop (mkF m 28 #[.val (.int i0), .val (.int i1), .val (.int (1 : Int32)), .unset, .unset, .unset] [(.int (i0 &&& (15 : Int32))), (.int (40 : Int32))])) _
    refine XS.iadd X0.here hx rfl (hb hby at_28) rfl ?_
    show Steps p.tables e below (s₁.setTop (mkF m 29 #[.val (.int i0), .val (.int i1), .val (.int (1 : Int32)), .unset, .unset, .unset] [(.int ((40 : Int32) + (i0 &&& (15 : Int32))))])) _
    refine XS.i2c X0.here hx rfl (hb hby at_29) rfl ?_
    show Steps p.tables e below (s₁.setTop (mkF m 30 #[.val (.int i0), .val (.int i1), .val (.int (1 : Int32)), .unset, .unset, .unset] [(.int (((40 : Int32) + (i0 &&& (15 : Int32))).toUInt32.toUInt16.toUInt32.toInt32))])) _
    refine XS.istoreN X0.here hx rfl (hb hby at_30) rfl (l' := #[.val (.int i0), .val (.int i1), .val (.int (1 : Int32)), .val (.int (((40 : Int32) + (i0 &&& (15 : Int32))).toUInt32.toUInt16.toUInt32.toInt32)), .unset, .unset]) rfl ?_
    show Steps p.tables e below (s₁.setTop (mkF m 31 #[.val (.int i0), .val (.int i1), .val (.int (1 : Int32)), .val (.int (((40 : Int32) + (i0 &&& (15 : Int32))).toUInt32.toUInt16.toUInt32.toInt32)), .unset, .unset] [])) _
    refine XS.goto X0.here hx rfl (pc0 := 31) (pc' := 66) rfl (hb hby at_31) (by decide) (by decide) ?_
    show Steps p.tables e below (s₁.setTop (mkF m 66 #[.val (.int i0), .val (.int i1), .val (.int (1 : Int32)), .val (.int (((40 : Int32) + (i0 &&& (15 : Int32))).toUInt32.toUInt16.toUInt32.toInt32)), .unset, .unset] [])) _
    refine XS.iloadN X0.here hx rfl (hb hby at_66) rfl ?_
    show Steps p.tables e below (s₁.setTop (mkF m 67 #[.val (.int i0), .val (.int i1), .val (.int (1 : Int32)), .val (.int (((40 : Int32) + (i0 &&& (15 : Int32))).toUInt32.toUInt16.toUInt32.toInt32)), .unset, .unset] [(.int (((40 : Int32) + (i0 &&& (15 : Int32))).toUInt32.toUInt16.toUInt32.toInt32))])) _
    refine st1 _ ?_
    show Steps p.tables e below (T1.setTop (mkF m 70 #[.val (.int i0), .val (.int i1), .val (.int (1 : Int32)), .val (.int (((40 : Int32) + (i0 &&& (15 : Int32))).toUInt32.toUInt16.toUInt32.toInt32)), .unset, .unset] [(.ref r2)])) _
    refine XS.astore X1.here hx rfl (hb hby at_70) rfl rfl (l' := #[.val (.int i0), .val (.int i1), .val (.int (1 : Int32)), .val (.int (((40 : Int32) + (i0 &&& (15 : Int32))).toUInt32.toUInt16.toUInt32.toInt32)), .val (.ref r2), .unset]) rfl ?_
    show Steps p.tables e below (T1.setTop (mkF m 72 #[.val (.int i0), .val (.int i1), .val (.int (1 : Int32)), .val (.int (((40 : Int32) + (i0 &&& (15 : Int32))).toUInt32.toUInt16.toUInt32.toInt32)), .val (.ref r2), .unset] [])) _
    refine XS.iloadN X1.here hx rfl (hb hby at_72) rfl ?_
    show Steps p.tables e below (T1.setTop (mkF m 73 #[.val (.int i0), .val (.int i1), .val (.int (1 : Int32)), .val (.int (((40 : Int32) + (i0 &&& (15 : Int32))).toUInt32.toUInt16.toUInt32.toInt32)), .val (.ref r2), .unset] [(.int (((40 : Int32) + (i0 &&& (15 : Int32))).toUInt32.toUInt16.toUInt32.toInt32))])) _
    refine st2 _ ?_
    show Steps p.tables e below (T2.setTop (mkF m 76 #[.val (.int i0), .val (.int i1), .val (.int (1 : Int32)), .val (.int (((40 : Int32) + (i0 &&& (15 : Int32))).toUInt32.toUInt16.toUInt32.toInt32)), .val (.ref r2), .unset] [(.ref r2)])) _
    refine XS.astore X2.here hx rfl (hb hby at_76) rfl rfl (l' := #[.val (.int i0), .val (.int i1), .val (.int (1 : Int32)), .val (.int (((40 : Int32) + (i0 &&& (15 : Int32))).toUInt32.toUInt16.toUInt32.toInt32)), .val (.ref r2), .val (.ref r2)]) rfl ?_
    show Steps p.tables e below (T2.setTop (mkF m 78 #[.val (.int i0), .val (.int i1), .val (.int (1 : Int32)), .val (.int (((40 : Int32) + (i0 &&& (15 : Int32))).toUInt32.toUInt16.toUInt32.toInt32)), .val (.ref r2), .val (.ref r2)] [])) _
    refine XS.aload X2.here hx rfl (hb hby at_78) rfl rfl ?_
    show Steps p.tables e below (T2.setTop (mkF m 80 #[.val (.int i0), .val (.int i1), .val (.int (1 : Int32)), .val (.int (((40 : Int32) + (i0 &&& (15 : Int32))).toUInt32.toUInt16.toUInt32.toInt32)), .val (.ref r2), .val (.ref r2)] [(.ref r2)])) _
    refine XS.aload X2.here hx rfl (hb hby at_80) rfl rfl ?_
    show Steps p.tables e below (T2.setTop (mkF m 82 #[.val (.int i0), .val (.int i1), .val (.int (1 : Int32)), .val (.int (((40 : Int32) + (i0 &&& (15 : Int32))).toUInt32.toUInt16.toUInt32.toInt32)), .val (.ref r2), .val (.ref r2)] [(.ref r2), (.ref r2)])) _
    refine Jvm.RoadKit.acmp (g := (mkF m 82 #[.val (.int i0), .val (.int i1), .val (.int (1 : Int32)), .val (.int (((40 : Int32) + (i0 &&& (15 : Int32))).toUInt32.toUInt16.toUInt32.toInt32)), .val (.ref r2), .val (.ref r2)] [(.ref r2), (.ref r2)])) X2 hx rfl rfl rfl (pc0 := 82) (pc' := 85) (same := true) rfl (hb hby at_82) rfl (decide_eq_true rfl) (by decide) (by decide) ?_
    show Steps p.tables e below (T2.setTop (mkF m 85 #[.val (.int i0), .val (.int i1), .val (.int (1 : Int32)), .val (.int (((40 : Int32) + (i0 &&& (15 : Int32))).toUInt32.toUInt16.toUInt32.toInt32)), .val (.ref r2), .val (.ref r2)] [])) _
    refine XS.iconst X2.here hx rfl (hb hby at_85) ?_
    show Steps p.tables e below (T2.setTop (mkF m 86 #[.val (.int i0), .val (.int i1), .val (.int (1 : Int32)), .val (.int (((40 : Int32) + (i0 &&& (15 : Int32))).toUInt32.toUInt16.toUInt32.toInt32)), .val (.ref r2), .val (.ref r2)] [(.int (1 : Int32))])) _
    refine XS.goto X2.here hx rfl (pc0 := 86) (pc' := 90) rfl (hb hby at_86) (by decide) (by decide) ?_
    show Steps p.tables e below (T2.setTop (mkF m 90 #[.val (.int i0), .val (.int i1), .val (.int (1 : Int32)), .val (.int (((40 : Int32) + (i0 &&& (15 : Int32))).toUInt32.toUInt16.toUInt32.toInt32)), .val (.ref r2), .val (.ref r2)] [(.int (1 : Int32))])) _
    exact retN X2 hx (t := .boolean) Bd.returns (by simp) (hb hby at_90) hr
  · exact ⟨rfl, N2⟩
set_option maxRecDepth 65536 in
set_option maxHeartbeats 40000000 in
theorem own_r0_m1q3 (l : Launch) (Z : State) (a0 : Array Value) (hw : ∀ d ∈ tables_1, d.before a0 Z = true) (ws : List Jvm.Cond) (r0 : Addr) (r1 : Addr) (r2 : Addr) (r3 : Addr) (r4 : Addr) (cl_r4 : Cell) (h0 : Heap) (n0 : Nat) (Z0 : n0 ≤ h0.size) (F : own_W Z h0 r0 r1 r2 r3 r4 cl_r4) (i0 : Int32) (i1 : Int32) (hm : (i1 &&& (3 : Int32)) = (1 : Int32)) (hs43 : ¬ ((((40 : Int32) + (i0 &&& (15 : Int32))).toUInt32.toUInt16.toUInt32.toInt32) = (43 : Int32))) (hs45 : ¬ ((((40 : Int32) + (i0 &&& (15 : Int32))).toUInt32.toUInt16.toUInt32.toInt32) = (45 : Int32))) (hs42 : ¬ ((((40 : Int32) + (i0 &&& (15 : Int32))).toUInt32.toUInt16.toUInt32.toInt32) = (42 : Int32))) (hs47 : (((40 : Int32) + (i0 &&& (15 : Int32))).toUInt32.toUInt16.toUInt32.toInt32) = (47 : Int32)) :
    MetFree l x (head1 (Jvm.Cond.code x code maxLocals ret :: ws) room_1) (fun a U => a = #[(.int i0), (.int i1)] ∧ Z.Warmed39 U.vm ∧ U.heap = h0) (fun _ _ _ _ _ => True) (fun _ U o U' => ∃ v L, o = .returned v ∧ own_Q0 (.int (1 : Int32)) n0 v U'.heap L ∧ FrameEnd U o U' L room_1.cells room_1.slots) := by
  obtain ⟨S_r0, E_r0, S_r1, E_r1, S_r2, E_r2, S_r3, E_r3, S_r4, Ar_r4, Sz_r4, El_r4_0, F_r0_symbol, El_r4_1, F_r1_symbol, El_r4_2, F_r2_symbol, El_r4_3, F_r3_symbol, ne_r0_r1, ne_r0_r2, ne_r0_r3, ne_r1_r2, ne_r1_r3, ne_r2_r3⟩ := id F
  refine MetFree.of_bodySF (plainFor_of_name own_pn_OperatorBySymbolPinLaw) hisR ?_
  intro p e s m args below meth c s₁ Bd hml0 hP hK
  obtain ⟨rfl, hZ, hh⟩ := hP
  have hx := Bd.exec
  have hby := Bd.bytes
  have hml : c.maxLocals = 6 := hml0
  have hown : s.vm.findClass "dragoman/OperatorBySymbolPinLaw" = some m.cls := findClass_of_methodNamed Bd.named
  have X0 : Stand p l e room_1 s m #[(.int i0), (.int i1)] below meth c s₁ [] 0 0 := Stand.of_body Bd
  have e0 : s₁.heap = h0 := by rw [← hh, Bd.state]; rfl
  have N0 := Fr.nil n0
  have pre0 : ∀ t, Steps p.tables e below (s₁.setTop (mkF m 0 #[.val (.int i0), .val (.int i1), .unset, .unset, .unset, .unset] [])) t → Steps p.tables e below (s₁.setTop (entryFrame m #[(.int i0), (.int i1)] maxLocals)) t := fun t k => castTop (own_ef0_II m i0 i1) k
  obtain ⟨_, _, ⟨T1, L1, k1, n1⟩, -, X1, ⟨Lc1, hQ1, l1, y1, z1⟩, st1⟩ := Jvm.LawKit.callS X0 hx (y := (⟨"dragoman/Operator", "bySymbol", "(C)Ldragoman/Operator;"⟩ : MethodName)) hown (mvT hZ (hw _ (List.mem_of_getElem? (i := 1) rfl))) (mvT hZ (hw _ (List.mem_of_getElem? (i := 2) rfl))) (mvT hZ (hw _ (List.mem_of_getElem? (i := 3) rfl))) (mvT hZ (hw _ (List.mem_of_getElem? (i := 4) rfl))) (by decide) (backOf (W := 0) (own_r1_11 l Z a0 hw [] r0 r1 r2 r3 r4 cl_r4 h0 n0 Z0 F (((40 : Int32) + (i0 &&& (15 : Int32))).toUInt32.toUInt16.toUInt32.toInt32) hs43 hs45 hs42 hs47) hZ (hw _ (List.mem_of_getElem? (i := 4) rfl)) (hw _ (List.mem_of_getElem? (i := 3) rfl)) (by decide) (by decide)) (g := (mkF m 67 #[.val (.int i0), .val (.int i1), .val (.int (1 : Int32)), .val (.int (((40 : Int32) + (i0 &&& (15 : Int32))).toUInt32.toUInt16.toUInt32.toInt32)), .unset, .unset] [(.int (((40 : Int32) + (i0 &&& (15 : Int32))).toUInt32.toUInt16.toUInt32.toInt32))])) rfl (by rw [hml]; rfl) (argsL := [(.int (((40 : Int32) + (i0 &&& (15 : Int32))).toUInt32.toUInt16.toUInt32.toInt32))]) (rest := []) (lenOf own_pd0 rfl) rfl (by show 2 * 0 + _ ≤ _; exact Nat.le_of_eq rfl) (hb hby at_67) (fun _ _ => ⟨rfl, e0, (by decide : 0 + 0 ≤ _), (by decide : 0 + 0 ≤ _)⟩)
  dsimp only [Pt.U, Pt.locs, Pt.cells, Pt.slots] at X1 l1 y1 z1 st1 hQ1
  subst l1 y1 z1
  obtain ⟨rfl, N1q, e1⟩ := hQ1
  have N1 := Fr.app N0 N1q
  obtain ⟨_, _, ⟨T2, L2, k2, n2⟩, -, X2, ⟨Lc2, hQ2, l2, y2, z2⟩, st2⟩ := Jvm.LawKit.callS X1 hx (y := (⟨"dragoman/OperatorBySymbolPinLaw", "expected", "(C)Ldragoman/Operator;"⟩ : MethodName)) hown (mvT hZ (hw _ (List.mem_of_getElem? (i := 10) rfl))) (mvT hZ (hw _ (List.mem_of_getElem? (i := 11) rfl))) (mvT hZ (hw _ (List.mem_of_getElem? (i := 12) rfl))) (mvT hZ (hw _ (List.mem_of_getElem? (i := 13) rfl))) (by decide) (backOf (W := 0) (own_r2_12 l Z a0 hw [] r0 r1 r2 r3 r4 cl_r4 h0 n0 Z0 F (((40 : Int32) + (i0 &&& (15 : Int32))).toUInt32.toUInt16.toUInt32.toInt32) hs43 hs45 hs42 hs47) hZ (hw _ (List.mem_of_getElem? (i := 13) rfl)) (hw _ (List.mem_of_getElem? (i := 12) rfl)) (by decide) (by decide)) (g := (mkF m 73 #[.val (.int i0), .val (.int i1), .val (.int (1 : Int32)), .val (.int (((40 : Int32) + (i0 &&& (15 : Int32))).toUInt32.toUInt16.toUInt32.toInt32)), .val (.ref r3), .unset] [(.int (((40 : Int32) + (i0 &&& (15 : Int32))).toUInt32.toUInt16.toUInt32.toInt32))])) rfl (by rw [hml]; rfl) (argsL := [(.int (((40 : Int32) + (i0 &&& (15 : Int32))).toUInt32.toUInt16.toUInt32.toInt32))]) (rest := []) (lenOf own_pd0 rfl) rfl (by show 2 * 0 + _ ≤ _; exact Nat.le_of_eq rfl) (hb hby at_73) (fun _ _ => ⟨rfl, e1, (by decide : 0 + 0 ≤ _), (by decide : 0 + 0 ≤ _)⟩)
  dsimp only [Pt.U, Pt.locs, Pt.cells, Pt.slots] at X2 l2 y2 z2 st2 hQ2
  subst l2 y2 z2
  obtain ⟨rfl, N2q, e2⟩ := hQ2
  have N2 := Fr.app N1 N2q
  obtain ⟨fs, hr, hrun, hended, hW, hsame⟩ := X2.leave (v := some (.int (1 : Int32))) (fun h => by rw [Bd.returns] at h; cases h)
  refine ⟨_, _, pre0 _ ?_, hrun, hended, _, _, rfl, ?_, ⟨_, rfl⟩, hW, hsame.mono (by decide) (by decide)⟩
  · show Steps p.tables e below (s₁.setTop (mkF m 0 #[.val (.int i0), .val (.int i1), .unset, .unset, .unset, .unset] [])) _
    refine XS.iloadN X0.here hx rfl (hb hby at_0) rfl ?_
    show Steps p.tables e below (s₁.setTop (mkF m 1 #[.val (.int i0), .val (.int i1), .unset, .unset, .unset, .unset] [(.int i1)])) _
    refine XS.iconst X0.here hx rfl (hb hby at_1) ?_
    show Steps p.tables e below (s₁.setTop (mkF m 2 #[.val (.int i0), .val (.int i1), .unset, .unset, .unset, .unset] [(.int (3 : Int32)), (.int i1)])) _
    refine XS.iand X0.here hx rfl (hb hby at_2) rfl ?_
    show Steps p.tables e below (s₁.setTop (mkF m 3 #[.val (.int i0), .val (.int i1), .unset, .unset, .unset, .unset] [(.int (i1 &&& (3 : Int32)))])) _
    rw [hm]
    show Steps p.tables e below (s₁.setTop (mkF m 3 #[.val (.int i0), .val (.int i1), .unset, .unset, .unset, .unset] [(.int (1 : Int32))])) _
    refine XS.istoreN X0.here hx rfl (hb hby at_3) rfl (l' := #[.val (.int i0), .val (.int i1), .val (.int (1 : Int32)), .unset, .unset, .unset]) rfl ?_
    show Steps p.tables e below (s₁.setTop (mkF m 4 #[.val (.int i0), .val (.int i1), .val (.int (1 : Int32)), .unset, .unset, .unset] [])) _
    refine XS.iloadN X0.here hx rfl (hb hby at_4) rfl ?_
    show Steps p.tables e below (s₁.setTop (mkF m 5 #[.val (.int i0), .val (.int i1), .val (.int (1 : Int32)), .unset, .unset, .unset] [(.int (1 : Int32))])) _
    refine XS.ifYes X0.here hx rfl (pc0 := 5) (pc' := 17) rfl (hb hby at_5) rfl ((if0 _ _).trans (feq (by decide : ¬ ((1 : Int32) = (0 : Int32)))).2) (by decide) (by decide) ?_
    show Steps p.tables e below (s₁.setTop (mkF m 17 #[.val (.int i0), .val (.int i1), .val (.int (1 : Int32)), .unset, .unset, .unset] [])) _
    refine XS.iloadN X0.here hx rfl (hb hby at_17) rfl ?_
    show Steps p.tables e below (s₁.setTop (mkF m 18 #[.val (.int i0), .val (.int i1), .val (.int (1 : Int32)), .unset, .unset, .unset] [(.int (1 : Int32))])) _
    refine XS.iconst X0.here hx rfl (hb hby at_18) ?_
    show Steps p.tables e below (s₁.setTop (mkF m 19 #[.val (.int i0), .val (.int i1), .val (.int (1 : Int32)), .unset, .unset, .unset] [(.int (1 : Int32)), (.int (1 : Int32))])) _
    refine XS.icmpNo X0.here hx rfl (hb hby at_19) rfl (teq (by decide : (1 : Int32) = (1 : Int32))).2 ?_
    show Steps p.tables e below (s₁.setTop (mkF m 22 #[.val (.int i0), .val (.int i1), .val (.int (1 : Int32)), .unset, .unset, .unset] [])) _
    refine XS.bipush X0.here hx rfl (hb hby at_22) ?_
    show Steps p.tables e below (s₁.setTop (mkF m 24 #[.val (.int i0), .val (.int i1), .val (.int (1 : Int32)), .unset, .unset, .unset] [(.int (40 : Int32))])) _
    refine XS.iloadN X0.here hx rfl (hb hby at_24) rfl ?_
    show Steps p.tables e below (s₁.setTop (mkF m 25 #[.val (.int i0), .val (.int i1), .val (.int (1 : Int32)), .unset, .unset, .unset] [(.int i0), (.int (40 : Int32))])) _
    refine XS.bipush X0.here hx rfl (hb hby at_25) ?_
    show Steps p.tables e below (s₁.setTop (mkF m 27 #[.val (.int i0), .val (.int i1), .val (.int (1 : Int32)), .unset, .unset, .unset] [(.int (15 : Int32)), (.int i0), (.int (40 : Int32))])) _
    refine XS.iand X0.here hx rfl (hb hby at_27) rfl ?_
    show Steps p.tables e below (s₁.setTop (mkF m 28 #[.val (.int i0), .val (.int i1), .val (.int (1 : Int32)), .unset, .unset, .unset] [(.int (i0 &&& (15 : Int32))), (.int (40 : Int32))])) _
    refine XS.iadd X0.here hx rfl (hb hby at_28) rfl ?_
    show Steps p.tables e below (s₁.setTop (mkF m 29 #[.val (.int i0), .val (.int i1), .val (.int (1 : Int32)), .unset, .unset, .unset] [(.int ((40 : Int32) + (i0 &&& (15 : Int32))))])) _
    refine XS.i2c X0.here hx rfl (hb hby at_29) rfl ?_
    show Steps p.tables e below (s₁.setTop (mkF m 30 #[.val (.int i0), .val (.int i1), .val (.int (1 : Int32)), .unset, .unset, .unset] [(.int (((40 : Int32) + (i0 &&& (15 : Int32))).toUInt32.toUInt16.toUInt32.toInt32))])) _
    refine XS.istoreN X0.here hx rfl (hb hby at_30) rfl (l' := #[.val (.int i0), .val (.int i1), .val (.int (1 : Int32)), .val (.int (((40 : Int32) + (i0 &&& (15 : Int32))).toUInt32.toUInt16.toUInt32.toInt32)), .unset, .unset]) rfl ?_
    show Steps p.tables e below (s₁.setTop (mkF m 31 #[.val (.int i0), .val (.int i1), .val (.int (1 : Int32)), .val (.int (((40 : Int32) + (i0 &&& (15 : Int32))).toUInt32.toUInt16.toUInt32.toInt32)), .unset, .unset] [])) _
    refine XS.goto X0.here hx rfl (pc0 := 31) (pc' := 66) rfl (hb hby at_31) (by decide) (by decide) ?_
    show Steps p.tables e below (s₁.setTop (mkF m 66 #[.val (.int i0), .val (.int i1), .val (.int (1 : Int32)), .val (.int (((40 : Int32) + (i0 &&& (15 : Int32))).toUInt32.toUInt16.toUInt32.toInt32)), .unset, .unset] [])) _
    refine XS.iloadN X0.here hx rfl (hb hby at_66) rfl ?_
    show Steps p.tables e below (s₁.setTop (mkF m 67 #[.val (.int i0), .val (.int i1), .val (.int (1 : Int32)), .val (.int (((40 : Int32) + (i0 &&& (15 : Int32))).toUInt32.toUInt16.toUInt32.toInt32)), .unset, .unset] [(.int (((40 : Int32) + (i0 &&& (15 : Int32))).toUInt32.toUInt16.toUInt32.toInt32))])) _
    refine st1 _ ?_
    show Steps p.tables e below (T1.setTop (mkF m 70 #[.val (.int i0), .val (.int i1), .val (.int (1 : Int32)), .val (.int (((40 : Int32) + (i0 &&& (15 : Int32))).toUInt32.toUInt16.toUInt32.toInt32)), .unset, .unset] [(.ref r3)])) _
    refine XS.astore X1.here hx rfl (hb hby at_70) rfl rfl (l' := #[.val (.int i0), .val (.int i1), .val (.int (1 : Int32)), .val (.int (((40 : Int32) + (i0 &&& (15 : Int32))).toUInt32.toUInt16.toUInt32.toInt32)), .val (.ref r3), .unset]) rfl ?_
    show Steps p.tables e below (T1.setTop (mkF m 72 #[.val (.int i0), .val (.int i1), .val (.int (1 : Int32)), .val (.int (((40 : Int32) + (i0 &&& (15 : Int32))).toUInt32.toUInt16.toUInt32.toInt32)), .val (.ref r3), .unset] [])) _
    refine XS.iloadN X1.here hx rfl (hb hby at_72) rfl ?_
    show Steps p.tables e below (T1.setTop (mkF m 73 #[.val (.int i0), .val (.int i1), .val (.int (1 : Int32)), .val (.int (((40 : Int32) + (i0 &&& (15 : Int32))).toUInt32.toUInt16.toUInt32.toInt32)), .val (.ref r3), .unset] [(.int (((40 : Int32) + (i0 &&& (15 : Int32))).toUInt32.toUInt16.toUInt32.toInt32))])) _
    refine st2 _ ?_
    show Steps p.tables e below (T2.setTop (mkF m 76 #[.val (.int i0), .val (.int i1), .val (.int (1 : Int32)), .val (.int (((40 : Int32) + (i0 &&& (15 : Int32))).toUInt32.toUInt16.toUInt32.toInt32)), .val (.ref r3), .unset] [(.ref r3)])) _
    refine XS.astore X2.here hx rfl (hb hby at_76) rfl rfl (l' := #[.val (.int i0), .val (.int i1), .val (.int (1 : Int32)), .val (.int (((40 : Int32) + (i0 &&& (15 : Int32))).toUInt32.toUInt16.toUInt32.toInt32)), .val (.ref r3), .val (.ref r3)]) rfl ?_
    show Steps p.tables e below (T2.setTop (mkF m 78 #[.val (.int i0), .val (.int i1), .val (.int (1 : Int32)), .val (.int (((40 : Int32) + (i0 &&& (15 : Int32))).toUInt32.toUInt16.toUInt32.toInt32)), .val (.ref r3), .val (.ref r3)] [])) _
    refine XS.aload X2.here hx rfl (hb hby at_78) rfl rfl ?_
    show Steps p.tables e below (T2.setTop (mkF m 80 #[.val (.int i0), .val (.int i1), .val (.int (1 : Int32)), .val (.int (((40 : Int32) + (i0 &&& (15 : Int32))).toUInt32.toUInt16.toUInt32.toInt32)), .val (.ref r3), .val (.ref r3)] [(.ref r3)])) _
    refine XS.aload X2.here hx rfl (hb hby at_80) rfl rfl ?_
    show Steps p.tables e below (T2.setTop (mkF m 82 #[.val (.int i0), .val (.int i1), .val (.int (1 : Int32)), .val (.int (((40 : Int32) + (i0 &&& (15 : Int32))).toUInt32.toUInt16.toUInt32.toInt32)), .val (.ref r3), .val (.ref r3)] [(.ref r3), (.ref r3)])) _
    refine Jvm.RoadKit.acmp (g := (mkF m 82 #[.val (.int i0), .val (.int i1), .val (.int (1 : Int32)), .val (.int (((40 : Int32) + (i0 &&& (15 : Int32))).toUInt32.toUInt16.toUInt32.toInt32)), .val (.ref r3), .val (.ref r3)] [(.ref r3), (.ref r3)])) X2 hx rfl rfl rfl (pc0 := 82) (pc' := 85) (same := true) rfl (hb hby at_82) rfl (decide_eq_true rfl) (by decide) (by decide) ?_
    show Steps p.tables e below (T2.setTop (mkF m 85 #[.val (.int i0), .val (.int i1), .val (.int (1 : Int32)), .val (.int (((40 : Int32) + (i0 &&& (15 : Int32))).toUInt32.toUInt16.toUInt32.toInt32)), .val (.ref r3), .val (.ref r3)] [])) _
    refine XS.iconst X2.here hx rfl (hb hby at_85) ?_
    show Steps p.tables e below (T2.setTop (mkF m 86 #[.val (.int i0), .val (.int i1), .val (.int (1 : Int32)), .val (.int (((40 : Int32) + (i0 &&& (15 : Int32))).toUInt32.toUInt16.toUInt32.toInt32)), .val (.ref r3), .val (.ref r3)] [(.int (1 : Int32))])) _
    refine XS.goto X2.here hx rfl (pc0 := 86) (pc' := 90) rfl (hb hby at_86) (by decide) (by decide) ?_
    show Steps p.tables e below (T2.setTop (mkF m 90 #[.val (.int i0), .val (.int i1), .val (.int (1 : Int32)), .val (.int (((40 : Int32) + (i0 &&& (15 : Int32))).toUInt32.toUInt16.toUInt32.toInt32)), .val (.ref r3), .val (.ref r3)] [(.int (1 : Int32))])) _
    exact retN X2 hx (t := .boolean) Bd.returns (by simp) (hb hby at_90) hr
  · exact ⟨rfl, N2⟩
set_option maxRecDepth 65536 in
set_option maxHeartbeats 40000000 in
theorem own_r0_m1q4 (l : Launch) (Z : State) (a0 : Array Value) (hw : ∀ d ∈ tables_1, d.before a0 Z = true) (ws : List Jvm.Cond) (r0 : Addr) (r1 : Addr) (r2 : Addr) (r3 : Addr) (r4 : Addr) (cl_r4 : Cell) (h0 : Heap) (n0 : Nat) (Z0 : n0 ≤ h0.size) (F : own_W Z h0 r0 r1 r2 r3 r4 cl_r4) (i0 : Int32) (i1 : Int32) (hm : (i1 &&& (3 : Int32)) = (1 : Int32)) (hs43 : ¬ ((((40 : Int32) + (i0 &&& (15 : Int32))).toUInt32.toUInt16.toUInt32.toInt32) = (43 : Int32))) (hs45 : ¬ ((((40 : Int32) + (i0 &&& (15 : Int32))).toUInt32.toUInt16.toUInt32.toInt32) = (45 : Int32))) (hs42 : ¬ ((((40 : Int32) + (i0 &&& (15 : Int32))).toUInt32.toUInt16.toUInt32.toInt32) = (42 : Int32))) (hs47 : ¬ ((((40 : Int32) + (i0 &&& (15 : Int32))).toUInt32.toUInt16.toUInt32.toInt32) = (47 : Int32))) :
    MetFree l x (head1 (Jvm.Cond.code x code maxLocals ret :: ws) room_1) (fun a U => a = #[(.int i0), (.int i1)] ∧ Z.Warmed39 U.vm ∧ U.heap = h0) (fun _ _ _ _ _ => True) (fun _ U o U' => ∃ v L, o = .returned v ∧ own_Q0 (.int (1 : Int32)) n0 v U'.heap L ∧ FrameEnd U o U' L room_1.cells room_1.slots) := by
  obtain ⟨S_r0, E_r0, S_r1, E_r1, S_r2, E_r2, S_r3, E_r3, S_r4, Ar_r4, Sz_r4, El_r4_0, F_r0_symbol, El_r4_1, F_r1_symbol, El_r4_2, F_r2_symbol, El_r4_3, F_r3_symbol, ne_r0_r1, ne_r0_r2, ne_r0_r3, ne_r1_r2, ne_r1_r3, ne_r2_r3⟩ := id F
  refine MetFree.of_bodySF (plainFor_of_name own_pn_OperatorBySymbolPinLaw) hisR ?_
  intro p e s m args below meth c s₁ Bd hml0 hP hK
  obtain ⟨rfl, hZ, hh⟩ := hP
  have hx := Bd.exec
  have hby := Bd.bytes
  have hml : c.maxLocals = 6 := hml0
  have hown : s.vm.findClass "dragoman/OperatorBySymbolPinLaw" = some m.cls := findClass_of_methodNamed Bd.named
  have X0 : Stand p l e room_1 s m #[(.int i0), (.int i1)] below meth c s₁ [] 0 0 := Stand.of_body Bd
  have e0 : s₁.heap = h0 := by rw [← hh, Bd.state]; rfl
  have N0 := Fr.nil n0
  have pre0 : ∀ t, Steps p.tables e below (s₁.setTop (mkF m 0 #[.val (.int i0), .val (.int i1), .unset, .unset, .unset, .unset] [])) t → Steps p.tables e below (s₁.setTop (entryFrame m #[(.int i0), (.int i1)] maxLocals)) t := fun t k => castTop (own_ef0_II m i0 i1) k
  obtain ⟨_, _, ⟨T1, L1, k1, n1⟩, -, X1, ⟨Lc1, hQ1, l1, y1, z1⟩, st1⟩ := Jvm.LawKit.callS X0 hx (y := (⟨"dragoman/Operator", "bySymbol", "(C)Ldragoman/Operator;"⟩ : MethodName)) hown (mvT hZ (hw _ (List.mem_of_getElem? (i := 1) rfl))) (mvT hZ (hw _ (List.mem_of_getElem? (i := 2) rfl))) (mvT hZ (hw _ (List.mem_of_getElem? (i := 3) rfl))) (mvT hZ (hw _ (List.mem_of_getElem? (i := 4) rfl))) (by decide) (backOf (W := 0) (own_r1_14 l Z a0 hw [] r0 r1 r2 r3 r4 cl_r4 h0 n0 Z0 F (((40 : Int32) + (i0 &&& (15 : Int32))).toUInt32.toUInt16.toUInt32.toInt32) hs43 hs45 hs42 hs47) hZ (hw _ (List.mem_of_getElem? (i := 4) rfl)) (hw _ (List.mem_of_getElem? (i := 3) rfl)) (by decide) (by decide)) (g := (mkF m 67 #[.val (.int i0), .val (.int i1), .val (.int (1 : Int32)), .val (.int (((40 : Int32) + (i0 &&& (15 : Int32))).toUInt32.toUInt16.toUInt32.toInt32)), .unset, .unset] [(.int (((40 : Int32) + (i0 &&& (15 : Int32))).toUInt32.toUInt16.toUInt32.toInt32))])) rfl (by rw [hml]; rfl) (argsL := [(.int (((40 : Int32) + (i0 &&& (15 : Int32))).toUInt32.toUInt16.toUInt32.toInt32))]) (rest := []) (lenOf own_pd0 rfl) rfl (by show 2 * 0 + _ ≤ _; exact Nat.le_of_eq rfl) (hb hby at_67) (fun _ _ => ⟨rfl, e0, (by decide : 0 + 0 ≤ _), (by decide : 0 + 0 ≤ _)⟩)
  dsimp only [Pt.U, Pt.locs, Pt.cells, Pt.slots] at X1 l1 y1 z1 st1 hQ1
  subst l1 y1 z1
  obtain ⟨rfl, N1q, e1⟩ := hQ1
  have N1 := Fr.app N0 N1q
  obtain ⟨_, _, ⟨T2, L2, k2, n2⟩, -, X2, ⟨Lc2, hQ2, l2, y2, z2⟩, st2⟩ := Jvm.LawKit.callS X1 hx (y := (⟨"dragoman/OperatorBySymbolPinLaw", "expected", "(C)Ldragoman/Operator;"⟩ : MethodName)) hown (mvT hZ (hw _ (List.mem_of_getElem? (i := 10) rfl))) (mvT hZ (hw _ (List.mem_of_getElem? (i := 11) rfl))) (mvT hZ (hw _ (List.mem_of_getElem? (i := 12) rfl))) (mvT hZ (hw _ (List.mem_of_getElem? (i := 13) rfl))) (by decide) (backOf (W := 0) (own_r2_15 l Z a0 hw [] r0 r1 r2 r3 r4 cl_r4 h0 n0 Z0 F (((40 : Int32) + (i0 &&& (15 : Int32))).toUInt32.toUInt16.toUInt32.toInt32) hs43 hs45 hs42 hs47) hZ (hw _ (List.mem_of_getElem? (i := 13) rfl)) (hw _ (List.mem_of_getElem? (i := 12) rfl)) (by decide) (by decide)) (g := (mkF m 73 #[.val (.int i0), .val (.int i1), .val (.int (1 : Int32)), .val (.int (((40 : Int32) + (i0 &&& (15 : Int32))).toUInt32.toUInt16.toUInt32.toInt32)), .val .null, .unset] [(.int (((40 : Int32) + (i0 &&& (15 : Int32))).toUInt32.toUInt16.toUInt32.toInt32))])) rfl (by rw [hml]; rfl) (argsL := [(.int (((40 : Int32) + (i0 &&& (15 : Int32))).toUInt32.toUInt16.toUInt32.toInt32))]) (rest := []) (lenOf own_pd0 rfl) rfl (by show 2 * 0 + _ ≤ _; exact Nat.le_of_eq rfl) (hb hby at_73) (fun _ _ => ⟨rfl, e1, (by decide : 0 + 0 ≤ _), (by decide : 0 + 0 ≤ _)⟩)
  dsimp only [Pt.U, Pt.locs, Pt.cells, Pt.slots] at X2 l2 y2 z2 st2 hQ2
  subst l2 y2 z2
  obtain ⟨rfl, N2q, e2⟩ := hQ2
  have N2 := Fr.app N1 N2q
  obtain ⟨fs, hr, hrun, hended, hW, hsame⟩ := X2.leave (v := some (.int (1 : Int32))) (fun h => by rw [Bd.returns] at h; cases h)
  refine ⟨_, _, pre0 _ ?_, hrun, hended, _, _, rfl, ?_, ⟨_, rfl⟩, hW, hsame.mono (by decide) (by decide)⟩
  · show Steps p.tables e below (s₁.setTop (mkF m 0 #[.val (.int i0), .val (.int i1), .unset, .unset, .unset, .unset] [])) _
    refine XS.iloadN X0.here hx rfl (hb hby at_0) rfl ?_
    show Steps p.tables e below (s₁.setTop (mkF m 1 #[.val (.int i0), .val (.int i1), .unset, .unset, .unset, .unset] [(.int i1)])) _
    refine XS.iconst X0.here hx rfl (hb hby at_1) ?_
    show Steps p.tables e below (s₁.setTop (mkF m 2 #[.val (.int i0), .val (.int i1), .unset, .unset, .unset, .unset] [(.int (3 : Int32)), (.int i1)])) _
    refine XS.iand X0.here hx rfl (hb hby at_2) rfl ?_
    show Steps p.tables e below (s₁.setTop (mkF m 3 #[.val (.int i0), .val (.int i1), .unset, .unset, .unset, .unset] [(.int (i1 &&& (3 : Int32)))])) _
    rw [hm]
    show Steps p.tables e below (s₁.setTop (mkF m 3 #[.val (.int i0), .val (.int i1), .unset, .unset, .unset, .unset] [(.int (1 : Int32))])) _
    refine XS.istoreN X0.here hx rfl (hb hby at_3) rfl (l' := #[.val (.int i0), .val (.int i1), .val (.int (1 : Int32)), .unset, .unset, .unset]) rfl ?_
    show Steps p.tables e below (s₁.setTop (mkF m 4 #[.val (.int i0), .val (.int i1), .val (.int (1 : Int32)), .unset, .unset, .unset] [])) _
    refine XS.iloadN X0.here hx rfl (hb hby at_4) rfl ?_
    show Steps p.tables e below (s₁.setTop (mkF m 5 #[.val (.int i0), .val (.int i1), .val (.int (1 : Int32)), .unset, .unset, .unset] [(.int (1 : Int32))])) _
    refine XS.ifYes X0.here hx rfl (pc0 := 5) (pc' := 17) rfl (hb hby at_5) rfl ((if0 _ _).trans (feq (by decide : ¬ ((1 : Int32) = (0 : Int32)))).2) (by decide) (by decide) ?_
    show Steps p.tables e below (s₁.setTop (mkF m 17 #[.val (.int i0), .val (.int i1), .val (.int (1 : Int32)), .unset, .unset, .unset] [])) _
    refine XS.iloadN X0.here hx rfl (hb hby at_17) rfl ?_
    show Steps p.tables e below (s₁.setTop (mkF m 18 #[.val (.int i0), .val (.int i1), .val (.int (1 : Int32)), .unset, .unset, .unset] [(.int (1 : Int32))])) _
    refine XS.iconst X0.here hx rfl (hb hby at_18) ?_
    show Steps p.tables e below (s₁.setTop (mkF m 19 #[.val (.int i0), .val (.int i1), .val (.int (1 : Int32)), .unset, .unset, .unset] [(.int (1 : Int32)), (.int (1 : Int32))])) _
    refine XS.icmpNo X0.here hx rfl (hb hby at_19) rfl (teq (by decide : (1 : Int32) = (1 : Int32))).2 ?_
    show Steps p.tables e below (s₁.setTop (mkF m 22 #[.val (.int i0), .val (.int i1), .val (.int (1 : Int32)), .unset, .unset, .unset] [])) _
    refine XS.bipush X0.here hx rfl (hb hby at_22) ?_
    show Steps p.tables e below (s₁.setTop (mkF m 24 #[.val (.int i0), .val (.int i1), .val (.int (1 : Int32)), .unset, .unset, .unset] [(.int (40 : Int32))])) _
    refine XS.iloadN X0.here hx rfl (hb hby at_24) rfl ?_
    show Steps p.tables e below (s₁.setTop (mkF m 25 #[.val (.int i0), .val (.int i1), .val (.int (1 : Int32)), .unset, .unset, .unset] [(.int i0), (.int (40 : Int32))])) _
    refine XS.bipush X0.here hx rfl (hb hby at_25) ?_
    show Steps p.tables e below (s₁.setTop (mkF m 27 #[.val (.int i0), .val (.int i1), .val (.int (1 : Int32)), .unset, .unset, .unset] [(.int (15 : Int32)), (.int i0), (.int (40 : Int32))])) _
    refine XS.iand X0.here hx rfl (hb hby at_27) rfl ?_
    show Steps p.tables e below (s₁.setTop (mkF m 28 #[.val (.int i0), .val (.int i1), .val (.int (1 : Int32)), .unset, .unset, .unset] [(.int (i0 &&& (15 : Int32))), (.int (40 : Int32))])) _
    refine XS.iadd X0.here hx rfl (hb hby at_28) rfl ?_
    show Steps p.tables e below (s₁.setTop (mkF m 29 #[.val (.int i0), .val (.int i1), .val (.int (1 : Int32)), .unset, .unset, .unset] [(.int ((40 : Int32) + (i0 &&& (15 : Int32))))])) _
    refine XS.i2c X0.here hx rfl (hb hby at_29) rfl ?_
    show Steps p.tables e below (s₁.setTop (mkF m 30 #[.val (.int i0), .val (.int i1), .val (.int (1 : Int32)), .unset, .unset, .unset] [(.int (((40 : Int32) + (i0 &&& (15 : Int32))).toUInt32.toUInt16.toUInt32.toInt32))])) _
    refine XS.istoreN X0.here hx rfl (hb hby at_30) rfl (l' := #[.val (.int i0), .val (.int i1), .val (.int (1 : Int32)), .val (.int (((40 : Int32) + (i0 &&& (15 : Int32))).toUInt32.toUInt16.toUInt32.toInt32)), .unset, .unset]) rfl ?_
    show Steps p.tables e below (s₁.setTop (mkF m 31 #[.val (.int i0), .val (.int i1), .val (.int (1 : Int32)), .val (.int (((40 : Int32) + (i0 &&& (15 : Int32))).toUInt32.toUInt16.toUInt32.toInt32)), .unset, .unset] [])) _
    refine XS.goto X0.here hx rfl (pc0 := 31) (pc' := 66) rfl (hb hby at_31) (by decide) (by decide) ?_
    show Steps p.tables e below (s₁.setTop (mkF m 66 #[.val (.int i0), .val (.int i1), .val (.int (1 : Int32)), .val (.int (((40 : Int32) + (i0 &&& (15 : Int32))).toUInt32.toUInt16.toUInt32.toInt32)), .unset, .unset] [])) _
    refine XS.iloadN X0.here hx rfl (hb hby at_66) rfl ?_
    show Steps p.tables e below (s₁.setTop (mkF m 67 #[.val (.int i0), .val (.int i1), .val (.int (1 : Int32)), .val (.int (((40 : Int32) + (i0 &&& (15 : Int32))).toUInt32.toUInt16.toUInt32.toInt32)), .unset, .unset] [(.int (((40 : Int32) + (i0 &&& (15 : Int32))).toUInt32.toUInt16.toUInt32.toInt32))])) _
    refine st1 _ ?_
    show Steps p.tables e below (T1.setTop (mkF m 70 #[.val (.int i0), .val (.int i1), .val (.int (1 : Int32)), .val (.int (((40 : Int32) + (i0 &&& (15 : Int32))).toUInt32.toUInt16.toUInt32.toInt32)), .unset, .unset] [.null])) _
    refine XS.astore X1.here hx rfl (hb hby at_70) rfl rfl (l' := #[.val (.int i0), .val (.int i1), .val (.int (1 : Int32)), .val (.int (((40 : Int32) + (i0 &&& (15 : Int32))).toUInt32.toUInt16.toUInt32.toInt32)), .val .null, .unset]) rfl ?_
    show Steps p.tables e below (T1.setTop (mkF m 72 #[.val (.int i0), .val (.int i1), .val (.int (1 : Int32)), .val (.int (((40 : Int32) + (i0 &&& (15 : Int32))).toUInt32.toUInt16.toUInt32.toInt32)), .val .null, .unset] [])) _
    refine XS.iloadN X1.here hx rfl (hb hby at_72) rfl ?_
    show Steps p.tables e below (T1.setTop (mkF m 73 #[.val (.int i0), .val (.int i1), .val (.int (1 : Int32)), .val (.int (((40 : Int32) + (i0 &&& (15 : Int32))).toUInt32.toUInt16.toUInt32.toInt32)), .val .null, .unset] [(.int (((40 : Int32) + (i0 &&& (15 : Int32))).toUInt32.toUInt16.toUInt32.toInt32))])) _
    refine st2 _ ?_
    show Steps p.tables e below (T2.setTop (mkF m 76 #[.val (.int i0), .val (.int i1), .val (.int (1 : Int32)), .val (.int (((40 : Int32) + (i0 &&& (15 : Int32))).toUInt32.toUInt16.toUInt32.toInt32)), .val .null, .unset] [.null])) _
    refine XS.astore X2.here hx rfl (hb hby at_76) rfl rfl (l' := #[.val (.int i0), .val (.int i1), .val (.int (1 : Int32)), .val (.int (((40 : Int32) + (i0 &&& (15 : Int32))).toUInt32.toUInt16.toUInt32.toInt32)), .val .null, .val .null]) rfl ?_
    show Steps p.tables e below (T2.setTop (mkF m 78 #[.val (.int i0), .val (.int i1), .val (.int (1 : Int32)), .val (.int (((40 : Int32) + (i0 &&& (15 : Int32))).toUInt32.toUInt16.toUInt32.toInt32)), .val .null, .val .null] [])) _
    refine XS.aload X2.here hx rfl (hb hby at_78) rfl rfl ?_
    show Steps p.tables e below (T2.setTop (mkF m 80 #[.val (.int i0), .val (.int i1), .val (.int (1 : Int32)), .val (.int (((40 : Int32) + (i0 &&& (15 : Int32))).toUInt32.toUInt16.toUInt32.toInt32)), .val .null, .val .null] [.null])) _
    refine XS.aload X2.here hx rfl (hb hby at_80) rfl rfl ?_
    show Steps p.tables e below (T2.setTop (mkF m 82 #[.val (.int i0), .val (.int i1), .val (.int (1 : Int32)), .val (.int (((40 : Int32) + (i0 &&& (15 : Int32))).toUInt32.toUInt16.toUInt32.toInt32)), .val .null, .val .null] [.null, .null])) _
    refine Jvm.RoadKit.acmp (g := (mkF m 82 #[.val (.int i0), .val (.int i1), .val (.int (1 : Int32)), .val (.int (((40 : Int32) + (i0 &&& (15 : Int32))).toUInt32.toUInt16.toUInt32.toInt32)), .val .null, .val .null] [.null, .null])) X2 hx rfl rfl rfl (pc0 := 82) (pc' := 85) (same := true) rfl (hb hby at_82) rfl (decide_eq_true rfl) (by decide) (by decide) ?_
    show Steps p.tables e below (T2.setTop (mkF m 85 #[.val (.int i0), .val (.int i1), .val (.int (1 : Int32)), .val (.int (((40 : Int32) + (i0 &&& (15 : Int32))).toUInt32.toUInt16.toUInt32.toInt32)), .val .null, .val .null] [])) _
    refine XS.iconst X2.here hx rfl (hb hby at_85) ?_
    show Steps p.tables e below (T2.setTop (mkF m 86 #[.val (.int i0), .val (.int i1), .val (.int (1 : Int32)), .val (.int (((40 : Int32) + (i0 &&& (15 : Int32))).toUInt32.toUInt16.toUInt32.toInt32)), .val .null, .val .null] [(.int (1 : Int32))])) _
    refine XS.goto X2.here hx rfl (pc0 := 86) (pc' := 90) rfl (hb hby at_86) (by decide) (by decide) ?_
    show Steps p.tables e below (T2.setTop (mkF m 90 #[.val (.int i0), .val (.int i1), .val (.int (1 : Int32)), .val (.int (((40 : Int32) + (i0 &&& (15 : Int32))).toUInt32.toUInt16.toUInt32.toInt32)), .val .null, .val .null] [(.int (1 : Int32))])) _
    exact retN X2 hx (t := .boolean) Bd.returns (by simp) (hb hby at_90) hr
  · exact ⟨rfl, N2⟩
set_option maxRecDepth 65536 in
set_option maxHeartbeats 40000000 in
theorem own_r1_22 (l : Launch) (Z : State) (a0 : Array Value) (hw : ∀ d ∈ tables_1, d.before a0 Z = true) (ws : List Jvm.Cond) (r0 : Addr) (r1 : Addr) (r2 : Addr) (r3 : Addr) (r4 : Addr) (cl_r4 : Cell) (h0 : Heap) (n0 : Nat) (Z0 : n0 ≤ h0.size) (F : own_W Z h0 r0 r1 r2 r3 r4 cl_r4)   :
    MetFree l (⟨"dragoman/Operator", "bySymbol", "(C)Ldragoman/Operator;"⟩ : MethodName) (head1 (Jvm.Cond.code (⟨"dragoman/Operator", "bySymbol", "(C)Ldragoman/Operator;"⟩ : MethodName) prog_26_method_4_code 5 (some (.object "dragoman/Operator")) :: ws) ({ frames := 0, cells := 0, slots := 0, locals := 0 } : Room)) (fun a U => a = #[(.int (43 : Int32))] ∧ Z.Warmed39 U.vm ∧ U.heap = h0) (fun _ _ _ _ _ => True) (fun _ U o U' => ∃ v L, o = .returned v ∧ own_Q (.ref r0) h0 n0 v U'.heap L ∧ FrameEnd U o U' L ({ frames := 0, cells := 0, slots := 0, locals := 0 } : Room).cells ({ frames := 0, cells := 0, slots := 0, locals := 0 } : Room).slots) := by
  obtain ⟨S_r0, E_r0, S_r1, E_r1, S_r2, E_r2, S_r3, E_r3, S_r4, Ar_r4, Sz_r4, El_r4_0, F_r0_symbol, El_r4_1, F_r1_symbol, El_r4_2, F_r2_symbol, El_r4_3, F_r3_symbol, ne_r0_r1, ne_r0_r2, ne_r0_r3, ne_r1_r2, ne_r1_r3, ne_r2_r3⟩ := id F
  refine MetFree.of_bodySF (plainFor_of_name own_pn_Operator) hisR ?_
  intro p e s m args below meth c s₁ Bd hml0 hP hK
  obtain ⟨rfl, hZ, hh⟩ := hP
  have hx := Bd.exec
  have hby := Bd.bytes
  have hml : c.maxLocals = 5 := hml0
  have hown : s.vm.findClass "dragoman/Operator" = some m.cls := findClass_of_methodNamed Bd.named
  have X0 : Stand p l e ({ frames := 0, cells := 0, slots := 0, locals := 0 } : Room) s m #[(.int (43 : Int32))] below meth c s₁ [] 0 0 := Stand.of_body Bd
  have e0 : s₁.heap = h0 := by rw [← hh, Bd.state]; rfl
  have N0 := Fr.nil n0
  have pre0 : ∀ t, Steps p.tables e below (s₁.setTop (mkF m 0 #[.val (.int (43 : Int32)), .unset, .unset, .unset, .unset] [])) t → Steps p.tables e below (s₁.setTop (entryFrame m #[(.int (43 : Int32))] 5)) t := fun t k => castTop (own_ef1_I m (43 : Int32)) k
  obtain ⟨T1, X1, e1, st1⟩ := getS2 X0 hx hZ hown (host := "") (Or.inl (hw _ (List.mem_of_getElem? (i := 5) rfl))) Via.refl e0 S_r4 (g := (mkF m 0 #[.val (.int (43 : Int32)), .unset, .unset, .unset, .unset] [])) rfl (hb hby own_d1_0)
  obtain ⟨T2, X2, e2, st2⟩ := getF X1 hx hZ hown (host := "") (Or.inl (hw _ (List.mem_of_getElem? (i := 8) rfl))) Via.refl e1 F_r0_symbol (g := (mkF m 21 #[.val (.int (43 : Int32)), .val (.ref r4), .val (.int (4 : Int32)), .val (.int (0 : Int32)), .val (.ref r0)] [(.ref r0)])) rfl rfl (hb hby own_d1_21)
  obtain ⟨fs, hr, hrun, hended, hW, hsame⟩ := X2.leave (v := some (.ref r0)) (fun h => by rw [Bd.returns] at h; cases h)
  refine ⟨_, _, pre0 _ ?_, hrun, hended, _, _, rfl, ?_, ⟨_, rfl⟩, hW, hsame.mono (by decide) (by decide)⟩
  · show Steps p.tables e below (s₁.setTop (mkF m 0 #[.val (.int (43 : Int32)), .unset, .unset, .unset, .unset] [])) _
    refine st1 _ ?_
    show Steps p.tables e below (T1.setTop (mkF m 3 #[.val (.int (43 : Int32)), .unset, .unset, .unset, .unset] [(.ref r4)])) _
    refine XS.astoreN X1.here hx rfl (hb hby own_d1_3) rfl rfl (l' := #[.val (.int (43 : Int32)), .val (.ref r4), .unset, .unset, .unset]) rfl ?_
    show Steps p.tables e below (T1.setTop (mkF m 4 #[.val (.int (43 : Int32)), .val (.ref r4), .unset, .unset, .unset] [])) _
    refine XS.aloadN X1.here hx rfl (hb hby own_d1_4) rfl rfl ?_
    show Steps p.tables e below (T1.setTop (mkF m 5 #[.val (.int (43 : Int32)), .val (.ref r4), .unset, .unset, .unset] [(.ref r4)])) _
    refine X1.arraylength hx (by rw [e1]; exact Ar_r4.1) (State.isArrayOf_alike hZ.alike Ar_r4.2.1) (g := (mkF m 5 #[.val (.int (43 : Int32)), .val (.ref r4), .unset, .unset, .unset] [(.ref r4)])) rfl rfl (hb hby own_d1_5) _ ?_
    rw [len_of Sz_r4 (by decide)]
    show Steps p.tables e below (T1.setTop (mkF m 6 #[.val (.int (43 : Int32)), .val (.ref r4), .unset, .unset, .unset] [(.int (4 : Int32))])) _
    refine XS.istoreN X1.here hx rfl (hb hby own_d1_6) rfl (l' := #[.val (.int (43 : Int32)), .val (.ref r4), .val (.int (4 : Int32)), .unset, .unset]) rfl ?_
    show Steps p.tables e below (T1.setTop (mkF m 7 #[.val (.int (43 : Int32)), .val (.ref r4), .val (.int (4 : Int32)), .unset, .unset] [])) _
    refine XS.iconst X1.here hx rfl (hb hby own_d1_7) ?_
    show Steps p.tables e below (T1.setTop (mkF m 8 #[.val (.int (43 : Int32)), .val (.ref r4), .val (.int (4 : Int32)), .unset, .unset] [(.int (0 : Int32))])) _
    refine XS.istoreN X1.here hx rfl (hb hby own_d1_8) rfl (l' := #[.val (.int (43 : Int32)), .val (.ref r4), .val (.int (4 : Int32)), .val (.int (0 : Int32)), .unset]) rfl ?_
    show Steps p.tables e below (T1.setTop (mkF m 9 #[.val (.int (43 : Int32)), .val (.ref r4), .val (.int (4 : Int32)), .val (.int (0 : Int32)), .unset] [])) _
    refine XS.iloadN X1.here hx rfl (hb hby own_d1_9) rfl ?_
    show Steps p.tables e below (T1.setTop (mkF m 10 #[.val (.int (43 : Int32)), .val (.ref r4), .val (.int (4 : Int32)), .val (.int (0 : Int32)), .unset] [(.int (0 : Int32))])) _
    refine XS.iloadN X1.here hx rfl (hb hby own_d1_10) rfl ?_
    show Steps p.tables e below (T1.setTop (mkF m 11 #[.val (.int (43 : Int32)), .val (.ref r4), .val (.int (4 : Int32)), .val (.int (0 : Int32)), .unset] [(.int (4 : Int32)), (.int (0 : Int32))])) _
    refine XS.icmpNo X1.here hx rfl (hb hby own_d1_11) rfl (tlt (by decide : (0 : Int32) < (4 : Int32))).2.1 ?_
    show Steps p.tables e below (T1.setTop (mkF m 14 #[.val (.int (43 : Int32)), .val (.ref r4), .val (.int (4 : Int32)), .val (.int (0 : Int32)), .unset] [])) _
    refine XS.aloadN X1.here hx rfl (hb hby own_d1_14) rfl rfl ?_
    show Steps p.tables e below (T1.setTop (mkF m 15 #[.val (.int (43 : Int32)), .val (.ref r4), .val (.int (4 : Int32)), .val (.int (0 : Int32)), .unset] [(.ref r4)])) _
    refine XS.iloadN X1.here hx rfl (hb hby own_d1_15) rfl ?_
    show Steps p.tables e below (T1.setTop (mkF m 16 #[.val (.int (43 : Int32)), .val (.ref r4), .val (.int (4 : Int32)), .val (.int (0 : Int32)), .unset] [(.int (0 : Int32)), (.ref r4)])) _
    refine X1.aaload hx (j := (0 : Int32)) (v := (.ref r0)) (by rw [e1]; exact Ar_r4.1) (State.isArrayOf_alike hZ.alike Ar_r4.2.1) rfl Ar_r4.2.2 (inb_of Sz_r4 ⟨by decide, by decide⟩) El_r4_0 (g := (mkF m 16 #[.val (.int (43 : Int32)), .val (.ref r4), .val (.int (4 : Int32)), .val (.int (0 : Int32)), .unset] [(.int (0 : Int32)), (.ref r4)])) rfl rfl (hb hby own_d1_16) _ ?_
    show Steps p.tables e below (T1.setTop (mkF m 17 #[.val (.int (43 : Int32)), .val (.ref r4), .val (.int (4 : Int32)), .val (.int (0 : Int32)), .unset] [(.ref r0)])) _
    refine XS.astore X1.here hx rfl (hb hby own_d1_17) rfl rfl (l' := #[.val (.int (43 : Int32)), .val (.ref r4), .val (.int (4 : Int32)), .val (.int (0 : Int32)), .val (.ref r0)]) rfl ?_
    show Steps p.tables e below (T1.setTop (mkF m 19 #[.val (.int (43 : Int32)), .val (.ref r4), .val (.int (4 : Int32)), .val (.int (0 : Int32)), .val (.ref r0)] [])) _
    refine XS.aload X1.here hx rfl (hb hby own_d1_19) rfl rfl ?_
    show Steps p.tables e below (T1.setTop (mkF m 21 #[.val (.int (43 : Int32)), .val (.ref r4), .val (.int (4 : Int32)), .val (.int (0 : Int32)), .val (.ref r0)] [(.ref r0)])) _
    refine st2 _ ?_
    show Steps p.tables e below (T2.setTop (mkF m 24 #[.val (.int (43 : Int32)), .val (.ref r4), .val (.int (4 : Int32)), .val (.int (0 : Int32)), .val (.ref r0)] [(.int (43 : Int32))])) _
    refine XS.iloadN X2.here hx rfl (hb hby own_d1_24) rfl ?_
    show Steps p.tables e below (T2.setTop (mkF m 25 #[.val (.int (43 : Int32)), .val (.ref r4), .val (.int (4 : Int32)), .val (.int (0 : Int32)), .val (.ref r0)] [(.int (43 : Int32)), (.int (43 : Int32))])) _
    refine XS.icmpNo X2.here hx rfl (hb hby own_d1_25) rfl (teq (by decide : (43 : Int32) = (43 : Int32))).2 ?_
    show Steps p.tables e below (T2.setTop (mkF m 28 #[.val (.int (43 : Int32)), .val (.ref r4), .val (.int (4 : Int32)), .val (.int (0 : Int32)), .val (.ref r0)] [])) _
    refine XS.aload X2.here hx rfl (hb hby own_d1_28) rfl rfl ?_
    show Steps p.tables e below (T2.setTop (mkF m 30 #[.val (.int (43 : Int32)), .val (.ref r4), .val (.int (4 : Int32)), .val (.int (0 : Int32)), .val (.ref r0)] [(.ref r0)])) _
    jvm_step X2.here [X2.here.top, hx, (hb hby own_d1_30), X2.method', Bd.returns, Value.isRef, FieldType.isReference]
    first | (intro acts; rw [hr _ acts rfl rfl rfl]) | rw [hr _ _ rfl rfl rfl]
    exact Steps.refl _
  · exact ⟨rfl, N0, e2⟩
set_option maxRecDepth 65536 in
set_option maxHeartbeats 40000000 in
theorem own_r2_23 (l : Launch) (Z : State) (a0 : Array Value) (hw : ∀ d ∈ tables_1, d.before a0 Z = true) (ws : List Jvm.Cond) (r0 : Addr) (r1 : Addr) (r2 : Addr) (r3 : Addr) (r4 : Addr) (cl_r4 : Cell) (h0 : Heap) (n0 : Nat) (Z0 : n0 ≤ h0.size) (F : own_W Z h0 r0 r1 r2 r3 r4 cl_r4)   :
    MetFree l (⟨"dragoman/OperatorBySymbolPinLaw", "expected", "(C)Ldragoman/Operator;"⟩ : MethodName) (head1 (Jvm.Cond.code (⟨"dragoman/OperatorBySymbolPinLaw", "expected", "(C)Ldragoman/Operator;"⟩ : MethodName) method_3_code 1 (some (.object "dragoman/Operator")) :: ws) ({ frames := 0, cells := 0, slots := 0, locals := 0 } : Room)) (fun a U => a = #[(.int (43 : Int32))] ∧ Z.Warmed39 U.vm ∧ U.heap = h0) (fun _ _ _ _ _ => True) (fun _ U o U' => ∃ v L, o = .returned v ∧ own_Q (.ref r0) h0 n0 v U'.heap L ∧ FrameEnd U o U' L ({ frames := 0, cells := 0, slots := 0, locals := 0 } : Room).cells ({ frames := 0, cells := 0, slots := 0, locals := 0 } : Room).slots) := by
  obtain ⟨S_r0, E_r0, S_r1, E_r1, S_r2, E_r2, S_r3, E_r3, S_r4, Ar_r4, Sz_r4, El_r4_0, F_r0_symbol, El_r4_1, F_r1_symbol, El_r4_2, F_r2_symbol, El_r4_3, F_r3_symbol, ne_r0_r1, ne_r0_r2, ne_r0_r3, ne_r1_r2, ne_r1_r3, ne_r2_r3⟩ := id F
  refine MetFree.of_bodySF (plainFor_of_name own_pn_OperatorBySymbolPinLaw) hisR ?_
  intro p e s m args below meth c s₁ Bd hml0 hP hK
  obtain ⟨rfl, hZ, hh⟩ := hP
  have hx := Bd.exec
  have hby := Bd.bytes
  have hml : c.maxLocals = 1 := hml0
  have hown : s.vm.findClass "dragoman/OperatorBySymbolPinLaw" = some m.cls := findClass_of_methodNamed Bd.named
  have X0 : Stand p l e ({ frames := 0, cells := 0, slots := 0, locals := 0 } : Room) s m #[(.int (43 : Int32))] below meth c s₁ [] 0 0 := Stand.of_body Bd
  have e0 : s₁.heap = h0 := by rw [← hh, Bd.state]; rfl
  have N0 := Fr.nil n0
  have pre0 : ∀ t, Steps p.tables e below (s₁.setTop (mkF m 0 #[.val (.int (43 : Int32))] [])) t → Steps p.tables e below (s₁.setTop (entryFrame m #[(.int (43 : Int32))] 1)) t := fun t k => castTop (own_ef2_I m (43 : Int32)) k
  obtain ⟨T1, X1, e1, st1⟩ := getS2 X0 hx hZ hown (host := "") (Or.inl (hw _ (List.mem_of_getElem? (i := 14) rfl))) Via.refl e0 S_r0 (g := (mkF m 6 #[.val (.int (43 : Int32))] [])) rfl (hb hby own_d2_6)
  obtain ⟨fs, hr, hrun, hended, hW, hsame⟩ := X1.leave (v := some (.ref r0)) (fun h => by rw [Bd.returns] at h; cases h)
  refine ⟨_, _, pre0 _ ?_, hrun, hended, _, _, rfl, ?_, ⟨_, rfl⟩, hW, hsame.mono (by decide) (by decide)⟩
  · show Steps p.tables e below (s₁.setTop (mkF m 0 #[.val (.int (43 : Int32))] [])) _
    refine XS.iloadN X0.here hx rfl (hb hby own_d2_0) rfl ?_
    show Steps p.tables e below (s₁.setTop (mkF m 1 #[.val (.int (43 : Int32))] [(.int (43 : Int32))])) _
    refine XS.bipush X0.here hx rfl (hb hby own_d2_1) ?_
    show Steps p.tables e below (s₁.setTop (mkF m 3 #[.val (.int (43 : Int32))] [(.int (43 : Int32)), (.int (43 : Int32))])) _
    refine XS.icmpNo X0.here hx rfl (hb hby own_d2_3) rfl (teq (by decide : (43 : Int32) = (43 : Int32))).2 ?_
    show Steps p.tables e below (s₁.setTop (mkF m 6 #[.val (.int (43 : Int32))] [])) _
    refine st1 _ ?_
    show Steps p.tables e below (T1.setTop (mkF m 9 #[.val (.int (43 : Int32))] [(.ref r0)])) _
    jvm_step X1.here [X1.here.top, hx, (hb hby own_d2_9), X1.method', Bd.returns, Value.isRef, FieldType.isReference]
    first | (intro acts; rw [hr _ acts rfl rfl rfl]) | rw [hr _ _ rfl rfl rfl]
    exact Steps.refl _
  · exact ⟨rfl, N0, e1⟩
set_option maxRecDepth 65536 in
set_option maxHeartbeats 40000000 in
theorem own_r0_m2j0 (l : Launch) (Z : State) (a0 : Array Value) (hw : ∀ d ∈ tables_1, d.before a0 Z = true) (ws : List Jvm.Cond) (r0 : Addr) (r1 : Addr) (r2 : Addr) (r3 : Addr) (r4 : Addr) (cl_r4 : Cell) (h0 : Heap) (n0 : Nat) (Z0 : n0 ≤ h0.size) (F : own_W Z h0 r0 r1 r2 r3 r4 cl_r4) (i0 : Int32) (i1 : Int32) (hm : (i1 &&& (3 : Int32)) = (2 : Int32)) (hj : (i0 &&& (3 : Int32)) = (0 : Int32)) :
    MetFree l x (head1 (Jvm.Cond.code x code maxLocals ret :: ws) room_1) (fun a U => a = #[(.int i0), (.int i1)] ∧ Z.Warmed39 U.vm ∧ U.heap = h0) (fun _ _ _ _ _ => True) (fun _ U o U' => ∃ v L, o = .returned v ∧ own_Q0 (.int (1 : Int32)) n0 v U'.heap L ∧ FrameEnd U o U' L room_1.cells room_1.slots) := by
  obtain ⟨S_r0, E_r0, S_r1, E_r1, S_r2, E_r2, S_r3, E_r3, S_r4, Ar_r4, Sz_r4, El_r4_0, F_r0_symbol, El_r4_1, F_r1_symbol, El_r4_2, F_r2_symbol, El_r4_3, F_r3_symbol, ne_r0_r1, ne_r0_r2, ne_r0_r3, ne_r1_r2, ne_r1_r3, ne_r2_r3⟩ := id F
  refine MetFree.of_bodySF (plainFor_of_name own_pn_OperatorBySymbolPinLaw) hisR ?_
  intro p e s m args below meth c s₁ Bd hml0 hP hK
  obtain ⟨rfl, hZ, hh⟩ := hP
  have hx := Bd.exec
  have hby := Bd.bytes
  have hml : c.maxLocals = 6 := hml0
  have hown : s.vm.findClass "dragoman/OperatorBySymbolPinLaw" = some m.cls := findClass_of_methodNamed Bd.named
  have X0 : Stand p l e room_1 s m #[(.int i0), (.int i1)] below meth c s₁ [] 0 0 := Stand.of_body Bd
  have e0 : s₁.heap = h0 := by rw [← hh, Bd.state]; rfl
  have N0 := Fr.nil n0
  have pre0 : ∀ t, Steps p.tables e below (s₁.setTop (mkF m 0 #[.val (.int i0), .val (.int i1), .unset, .unset, .unset, .unset] [])) t → Steps p.tables e below (s₁.setTop (entryFrame m #[(.int i0), (.int i1)] maxLocals)) t := fun t k => castTop (own_ef0_II m i0 i1) k
  obtain ⟨T1, h1, k1, X1, e1, E1, A1, st1⟩ := newP X0 hx hZ (hw _ (List.mem_of_getElem? (i := 0) rfl)) e0 (g := (mkF m 35 #[.val (.int i0), .val (.int i1), .val (.int (2 : Int32)), .unset, .unset, .unset] [(.int (4 : Int32))])) rfl (hb hby at_35) rfl (by decide) (cap := 4) (by decide) (by decide) (by decide) (by decide)
  obtain ⟨b1, g1⟩ : ∃ z, z = h0.size := ⟨_, rfl⟩
  rw [← g1] at A1 st1
  have V_1 : Arv Z h1 b1 k1 .char (4 : Int32) [(.int (0 : Int32)), (.int (0 : Int32)), (.int (0 : Int32)), (.int (0 : Int32))] (.int (0 : Int32)) := (Arv.new A1 (by decide)).pad (pad_rep [] (.int (0 : Int32)) 4)
  have g_b1 : n0 ≤ b1 := Nat.le_trans Z0 (Nat.le_of_eq g1.symm)
  have sz_b1 : h0.size ≤ b1 := Nat.le_trans (Keep.refl h0 []).1 (Nat.le_of_eq g1.symm)
  have K1 : Keep h0 h1 [] := (Keep.refl h0 []).ext E1
  have F1 : own_W Z h1 r0 r1 r2 r3 r4 cl_r4 := own_W_ext ⟨K1.1, fun a c q => K1.2.1 a c q (by simp)⟩ F
  obtain ⟨cl_2, Ar_2, q_2, S_2, N_2, H_2, G_2⟩ := V_1
  obtain ⟨T2, h2, X2, e2, W2, st2⟩ := stC X1 hx hZ e1 Ar_2 (j := (0 : Int32)) (inb_of S_2 ⟨by decide, by decide⟩) (g := (mkF m 41 #[.val (.int i0), .val (.int i1), .val (.int (2 : Int32)), .unset, .unset, .unset] [(.int (43 : Int32)), (.int (0 : Int32)), (.ref b1), (.ref b1)])) rfl rfl (hb hby at_41)
  have V_2 := Arv.set Ar_2 q_2 S_2 N_2 H_2 G_2 (fits_nar_char _) W2 0 rfl (Nat.le_of_ble_eq_true rfl)
  have K2 : Keep h0 h2 [] := K1.wr W2 (Or.inr sz_b1)
  have N2 := Fr.snoc X2 N0 g_b1
  have F2 : own_W Z h2 r0 r1 r2 r3 r4 cl_r4 := own_W_ext ⟨K2.1, fun a c q => K2.2.1 a c q (by simp)⟩ F
  obtain ⟨cl_3, Ar_3, q_3, S_3, N_3, H_3, G_3⟩ := V_2
  obtain ⟨T3, h3, X3, e3, W3, st3⟩ := stC X2 hx hZ e2 Ar_3 (j := (1 : Int32)) (inb_of S_3 ⟨by decide, by decide⟩) (g := (mkF m 46 #[.val (.int i0), .val (.int i1), .val (.int (2 : Int32)), .unset, .unset, .unset] [(.int (45 : Int32)), (.int (1 : Int32)), (.ref b1), (.ref b1)])) rfl rfl (hb hby at_46)
  have V_3 := Arv.set Ar_3 q_3 S_3 N_3 H_3 G_3 (fits_nar_char _) W3 1 rfl (Nat.le_of_ble_eq_true rfl)
  have K3 : Keep h0 h3 [] := K2.wr W3 (Or.inr sz_b1)
  have N3 := Fr.snoc X3 N2 g_b1
  have F3 : own_W Z h3 r0 r1 r2 r3 r4 cl_r4 := own_W_ext ⟨K3.1, fun a c q => K3.2.1 a c q (by simp)⟩ F
  obtain ⟨cl_4, Ar_4, q_4, S_4, N_4, H_4, G_4⟩ := V_3
  obtain ⟨T4, h4, X4, e4, W4, st4⟩ := stC X3 hx hZ e3 Ar_4 (j := (2 : Int32)) (inb_of S_4 ⟨by decide, by decide⟩) (g := (mkF m 51 #[.val (.int i0), .val (.int i1), .val (.int (2 : Int32)), .unset, .unset, .unset] [(.int (42 : Int32)), (.int (2 : Int32)), (.ref b1), (.ref b1)])) rfl rfl (hb hby at_51)
  have V_4 := Arv.set Ar_4 q_4 S_4 N_4 H_4 G_4 (fits_nar_char _) W4 2 rfl (Nat.le_of_ble_eq_true rfl)
  have K4 : Keep h0 h4 [] := K3.wr W4 (Or.inr sz_b1)
  have N4 := Fr.snoc X4 N3 g_b1
  have F4 : own_W Z h4 r0 r1 r2 r3 r4 cl_r4 := own_W_ext ⟨K4.1, fun a c q => K4.2.1 a c q (by simp)⟩ F
  obtain ⟨cl_5, Ar_5, q_5, S_5, N_5, H_5, G_5⟩ := V_4
  obtain ⟨T5, h5, X5, e5, W5, st5⟩ := stC X4 hx hZ e4 Ar_5 (j := (3 : Int32)) (inb_of S_5 ⟨by decide, by decide⟩) (g := (mkF m 56 #[.val (.int i0), .val (.int i1), .val (.int (2 : Int32)), .unset, .unset, .unset] [(.int (47 : Int32)), (.int (3 : Int32)), (.ref b1), (.ref b1)])) rfl rfl (hb hby at_56)
  have V_5 := Arv.set Ar_5 q_5 S_5 N_5 H_5 G_5 (fits_nar_char _) W5 3 rfl (Nat.le_of_ble_eq_true rfl)
  have K5 : Keep h0 h5 [] := K4.wr W5 (Or.inr sz_b1)
  have N5 := Fr.snoc X5 N4 g_b1
  have F5 : own_W Z h5 r0 r1 r2 r3 r4 cl_r4 := own_W_ext ⟨K5.1, fun a c q => K5.2.1 a c q (by simp)⟩ F
  obtain ⟨cl_6, Ar_6, q_6, S_6, N_6, H_6, G_6⟩ := id V_5
  have hin6 : ¬ ((0 : Int32) < 0 ∨ cl_6.slots.size ≤ ((0 : Int32)).toNatClampNeg) := inb_of S_6 ⟨by decide, by decide⟩
  have hat6 : cl_6.slots[((0 : Int32)).toNatClampNeg]? = some (.int (43 : Int32)) := Has.at H_6 hin6 rfl
  obtain ⟨_, _, ⟨T7, L7, k7, n7⟩, -, X7, ⟨Lc7, hQ7, l7, y7, z7⟩, st7⟩ := Jvm.LawKit.callS X5 hx (y := (⟨"dragoman/Operator", "bySymbol", "(C)Ldragoman/Operator;"⟩ : MethodName)) hown (mvT hZ (hw _ (List.mem_of_getElem? (i := 1) rfl))) (mvT hZ (hw _ (List.mem_of_getElem? (i := 2) rfl))) (mvT hZ (hw _ (List.mem_of_getElem? (i := 3) rfl))) (mvT hZ (hw _ (List.mem_of_getElem? (i := 4) rfl))) (by decide) (backOf (W := 0) (own_r1_22 l Z a0 hw [] r0 r1 r2 r3 r4 cl_r4 h5 n0 (Nat.le_trans Z0 K5.1) F5 ) hZ (hw _ (List.mem_of_getElem? (i := 4) rfl)) (hw _ (List.mem_of_getElem? (i := 3) rfl)) (by decide) (by decide)) (g := (mkF m 67 #[.val (.int i0), .val (.int i1), .val (.int (2 : Int32)), .val (.int (43 : Int32)), .val (.ref b1), .unset] [(.int (43 : Int32))])) rfl (by rw [hml]; rfl) (argsL := [(.int (43 : Int32))]) (rest := []) (lenOf own_pd0 rfl) rfl (by show 2 * 0 + _ ≤ _; exact Nat.le_of_eq rfl) (hb hby at_67) (fun _ _ => ⟨rfl, e5, (by decide : 1 + 0 ≤ _), (by decide : 4 + 0 ≤ _)⟩)
  dsimp only [Pt.U, Pt.locs, Pt.cells, Pt.slots] at X7 l7 y7 z7 st7 hQ7
  subst l7 y7 z7
  obtain ⟨rfl, N7q, e7⟩ := hQ7
  have N7 := Fr.app N5 N7q
  obtain ⟨_, _, ⟨T8, L8, k8, n8⟩, -, X8, ⟨Lc8, hQ8, l8, y8, z8⟩, st8⟩ := Jvm.LawKit.callS X7 hx (y := (⟨"dragoman/OperatorBySymbolPinLaw", "expected", "(C)Ldragoman/Operator;"⟩ : MethodName)) hown (mvT hZ (hw _ (List.mem_of_getElem? (i := 10) rfl))) (mvT hZ (hw _ (List.mem_of_getElem? (i := 11) rfl))) (mvT hZ (hw _ (List.mem_of_getElem? (i := 12) rfl))) (mvT hZ (hw _ (List.mem_of_getElem? (i := 13) rfl))) (by decide) (backOf (W := 0) (own_r2_23 l Z a0 hw [] r0 r1 r2 r3 r4 cl_r4 h5 n0 (Nat.le_trans Z0 K5.1) F5 ) hZ (hw _ (List.mem_of_getElem? (i := 13) rfl)) (hw _ (List.mem_of_getElem? (i := 12) rfl)) (by decide) (by decide)) (g := (mkF m 73 #[.val (.int i0), .val (.int i1), .val (.int (2 : Int32)), .val (.int (43 : Int32)), .val (.ref r0), .unset] [(.int (43 : Int32))])) rfl (by rw [hml]; rfl) (argsL := [(.int (43 : Int32))]) (rest := []) (lenOf own_pd0 rfl) rfl (by show 2 * 0 + _ ≤ _; exact Nat.le_of_eq rfl) (hb hby at_73) (fun _ _ => ⟨rfl, e7, (by decide : 1 + 0 ≤ _), (by decide : 4 + 0 ≤ _)⟩)
  dsimp only [Pt.U, Pt.locs, Pt.cells, Pt.slots] at X8 l8 y8 z8 st8 hQ8
  subst l8 y8 z8
  obtain ⟨rfl, N8q, e8⟩ := hQ8
  have N8 := Fr.app N7 N8q
  obtain ⟨fs, hr, hrun, hended, hW, hsame⟩ := X8.leave (v := some (.int (1 : Int32))) (fun h => by rw [Bd.returns] at h; cases h)
  refine ⟨_, _, pre0 _ ?_, hrun, hended, _, _, rfl, ?_, ⟨_, rfl⟩, hW, hsame.mono (by decide) (by decide)⟩
  · show Steps p.tables e below (s₁.setTop (mkF m 0 #[.val (.int i0), .val (.int i1), .unset, .unset, .unset, .unset] [])) _
    refine XS.iloadN X0.here hx rfl (hb hby at_0) rfl ?_
    show Steps p.tables e below (s₁.setTop (mkF m 1 #[.val (.int i0), .val (.int i1), .unset, .unset, .unset, .unset] [(.int i1)])) _
    refine XS.iconst X0.here hx rfl (hb hby at_1) ?_
    show Steps p.tables e below (s₁.setTop (mkF m 2 #[.val (.int i0), .val (.int i1), .unset, .unset, .unset, .unset] [(.int (3 : Int32)), (.int i1)])) _
    refine XS.iand X0.here hx rfl (hb hby at_2) rfl ?_
    show Steps p.tables e below (s₁.setTop (mkF m 3 #[.val (.int i0), .val (.int i1), .unset, .unset, .unset, .unset] [(.int (i1 &&& (3 : Int32)))])) _
    rw [hm]
    show Steps p.tables e below (s₁.setTop (mkF m 3 #[.val (.int i0), .val (.int i1), .unset, .unset, .unset, .unset] [(.int (2 : Int32))])) _
    refine XS.istoreN X0.here hx rfl (hb hby at_3) rfl (l' := #[.val (.int i0), .val (.int i1), .val (.int (2 : Int32)), .unset, .unset, .unset]) rfl ?_
    show Steps p.tables e below (s₁.setTop (mkF m 4 #[.val (.int i0), .val (.int i1), .val (.int (2 : Int32)), .unset, .unset, .unset] [])) _
    refine XS.iloadN X0.here hx rfl (hb hby at_4) rfl ?_
    show Steps p.tables e below (s₁.setTop (mkF m 5 #[.val (.int i0), .val (.int i1), .val (.int (2 : Int32)), .unset, .unset, .unset] [(.int (2 : Int32))])) _
    refine XS.ifYes X0.here hx rfl (pc0 := 5) (pc' := 17) rfl (hb hby at_5) rfl ((if0 _ _).trans (feq (by decide : ¬ ((2 : Int32) = (0 : Int32)))).2) (by decide) (by decide) ?_
    show Steps p.tables e below (s₁.setTop (mkF m 17 #[.val (.int i0), .val (.int i1), .val (.int (2 : Int32)), .unset, .unset, .unset] [])) _
    refine XS.iloadN X0.here hx rfl (hb hby at_17) rfl ?_
    show Steps p.tables e below (s₁.setTop (mkF m 18 #[.val (.int i0), .val (.int i1), .val (.int (2 : Int32)), .unset, .unset, .unset] [(.int (2 : Int32))])) _
    refine XS.iconst X0.here hx rfl (hb hby at_18) ?_
    show Steps p.tables e below (s₁.setTop (mkF m 19 #[.val (.int i0), .val (.int i1), .val (.int (2 : Int32)), .unset, .unset, .unset] [(.int (1 : Int32)), (.int (2 : Int32))])) _
    refine XS.icmpYes X0.here hx rfl (pc0 := 19) (pc' := 34) rfl (hb hby at_19) rfl (feq (by decide : ¬ ((2 : Int32) = (1 : Int32)))).2 (by decide) (by decide) ?_
    show Steps p.tables e below (s₁.setTop (mkF m 34 #[.val (.int i0), .val (.int i1), .val (.int (2 : Int32)), .unset, .unset, .unset] [])) _
    refine XS.iconst X0.here hx rfl (hb hby at_34) ?_
    show Steps p.tables e below (s₁.setTop (mkF m 35 #[.val (.int i0), .val (.int i1), .val (.int (2 : Int32)), .unset, .unset, .unset] [(.int (4 : Int32))])) _
    refine st1 _ ?_
    show Steps p.tables e below (T1.setTop (mkF m 37 #[.val (.int i0), .val (.int i1), .val (.int (2 : Int32)), .unset, .unset, .unset] [(.ref b1)])) _
    refine XS.dup X1.here hx rfl (hb hby at_37) rfl rfl ?_
    show Steps p.tables e below (T1.setTop (mkF m 38 #[.val (.int i0), .val (.int i1), .val (.int (2 : Int32)), .unset, .unset, .unset] [(.ref b1), (.ref b1)])) _
    refine XS.iconst X1.here hx rfl (hb hby at_38) ?_
    show Steps p.tables e below (T1.setTop (mkF m 39 #[.val (.int i0), .val (.int i1), .val (.int (2 : Int32)), .unset, .unset, .unset] [(.int (0 : Int32)), (.ref b1), (.ref b1)])) _
    refine XS.bipush X1.here hx rfl (hb hby at_39) ?_
    show Steps p.tables e below (T1.setTop (mkF m 41 #[.val (.int i0), .val (.int i1), .val (.int (2 : Int32)), .unset, .unset, .unset] [(.int (43 : Int32)), (.int (0 : Int32)), (.ref b1), (.ref b1)])) _
    refine st2 _ ?_
    show Steps p.tables e below (T2.setTop (mkF m 42 #[.val (.int i0), .val (.int i1), .val (.int (2 : Int32)), .unset, .unset, .unset] [(.ref b1)])) _
    refine XS.dup X2.here hx rfl (hb hby at_42) rfl rfl ?_
    show Steps p.tables e below (T2.setTop (mkF m 43 #[.val (.int i0), .val (.int i1), .val (.int (2 : Int32)), .unset, .unset, .unset] [(.ref b1), (.ref b1)])) _
    refine XS.iconst X2.here hx rfl (hb hby at_43) ?_
    show Steps p.tables e below (T2.setTop (mkF m 44 #[.val (.int i0), .val (.int i1), .val (.int (2 : Int32)), .unset, .unset, .unset] [(.int (1 : Int32)), (.ref b1), (.ref b1)])) _
    refine XS.bipush X2.here hx rfl (hb hby at_44) ?_
    show Steps p.tables e below (T2.setTop (mkF m 46 #[.val (.int i0), .val (.int i1), .val (.int (2 : Int32)), .unset, .unset, .unset] [(.int (45 : Int32)), (.int (1 : Int32)), (.ref b1), (.ref b1)])) _
    refine st3 _ ?_
    show Steps p.tables e below (T3.setTop (mkF m 47 #[.val (.int i0), .val (.int i1), .val (.int (2 : Int32)), .unset, .unset, .unset] [(.ref b1)])) _
    refine XS.dup X3.here hx rfl (hb hby at_47) rfl rfl ?_
    show Steps p.tables e below (T3.setTop (mkF m 48 #[.val (.int i0), .val (.int i1), .val (.int (2 : Int32)), .unset, .unset, .unset] [(.ref b1), (.ref b1)])) _
    refine XS.iconst X3.here hx rfl (hb hby at_48) ?_
    show Steps p.tables e below (T3.setTop (mkF m 49 #[.val (.int i0), .val (.int i1), .val (.int (2 : Int32)), .unset, .unset, .unset] [(.int (2 : Int32)), (.ref b1), (.ref b1)])) _
    refine XS.bipush X3.here hx rfl (hb hby at_49) ?_
    show Steps p.tables e below (T3.setTop (mkF m 51 #[.val (.int i0), .val (.int i1), .val (.int (2 : Int32)), .unset, .unset, .unset] [(.int (42 : Int32)), (.int (2 : Int32)), (.ref b1), (.ref b1)])) _
    refine st4 _ ?_
    show Steps p.tables e below (T4.setTop (mkF m 52 #[.val (.int i0), .val (.int i1), .val (.int (2 : Int32)), .unset, .unset, .unset] [(.ref b1)])) _
    refine XS.dup X4.here hx rfl (hb hby at_52) rfl rfl ?_
    show Steps p.tables e below (T4.setTop (mkF m 53 #[.val (.int i0), .val (.int i1), .val (.int (2 : Int32)), .unset, .unset, .unset] [(.ref b1), (.ref b1)])) _
    refine XS.iconst X4.here hx rfl (hb hby at_53) ?_
    show Steps p.tables e below (T4.setTop (mkF m 54 #[.val (.int i0), .val (.int i1), .val (.int (2 : Int32)), .unset, .unset, .unset] [(.int (3 : Int32)), (.ref b1), (.ref b1)])) _
    refine XS.bipush X4.here hx rfl (hb hby at_54) ?_
    show Steps p.tables e below (T4.setTop (mkF m 56 #[.val (.int i0), .val (.int i1), .val (.int (2 : Int32)), .unset, .unset, .unset] [(.int (47 : Int32)), (.int (3 : Int32)), (.ref b1), (.ref b1)])) _
    refine st5 _ ?_
    show Steps p.tables e below (T5.setTop (mkF m 57 #[.val (.int i0), .val (.int i1), .val (.int (2 : Int32)), .unset, .unset, .unset] [(.ref b1)])) _
    refine XS.astore X5.here hx rfl (hb hby at_57) rfl rfl (l' := #[.val (.int i0), .val (.int i1), .val (.int (2 : Int32)), .unset, .val (.ref b1), .unset]) rfl ?_
    show Steps p.tables e below (T5.setTop (mkF m 59 #[.val (.int i0), .val (.int i1), .val (.int (2 : Int32)), .unset, .val (.ref b1), .unset] [])) _
    refine XS.aload X5.here hx rfl (hb hby at_59) rfl rfl ?_
    show Steps p.tables e below (T5.setTop (mkF m 61 #[.val (.int i0), .val (.int i1), .val (.int (2 : Int32)), .unset, .val (.ref b1), .unset] [(.ref b1)])) _
    refine XS.iloadN X5.here hx rfl (hb hby at_61) rfl ?_
    show Steps p.tables e below (T5.setTop (mkF m 62 #[.val (.int i0), .val (.int i1), .val (.int (2 : Int32)), .unset, .val (.ref b1), .unset] [(.int i0), (.ref b1)])) _
    refine XS.iconst X5.here hx rfl (hb hby at_62) ?_
    show Steps p.tables e below (T5.setTop (mkF m 63 #[.val (.int i0), .val (.int i1), .val (.int (2 : Int32)), .unset, .val (.ref b1), .unset] [(.int (3 : Int32)), (.int i0), (.ref b1)])) _
    refine XS.iand X5.here hx rfl (hb hby at_63) rfl ?_
    show Steps p.tables e below (T5.setTop (mkF m 64 #[.val (.int i0), .val (.int i1), .val (.int (2 : Int32)), .unset, .val (.ref b1), .unset] [(.int (i0 &&& (3 : Int32))), (.ref b1)])) _
    rw [hj]
    show Steps p.tables e below (T5.setTop (mkF m 64 #[.val (.int i0), .val (.int i1), .val (.int (2 : Int32)), .unset, .val (.ref b1), .unset] [(.int (0 : Int32)), (.ref b1)])) _
    refine X5.caload hx (j := (0 : Int32)) (v := (.int (43 : Int32))) (by rw [e5]; exact Ar_6.1) (State.isArrayOf_alike hZ.alike Ar_6.2.1) Ar_6.2.2 hin6 hat6 (g := (mkF m 64 #[.val (.int i0), .val (.int i1), .val (.int (2 : Int32)), .unset, .val (.ref b1), .unset] [(.int (0 : Int32)), (.ref b1)])) rfl rfl (hb hby at_64) _ ?_
    show Steps p.tables e below (T5.setTop (mkF m 65 #[.val (.int i0), .val (.int i1), .val (.int (2 : Int32)), .unset, .val (.ref b1), .unset] [(.int (43 : Int32))])) _
    refine XS.istoreN X5.here hx rfl (hb hby at_65) rfl (l' := #[.val (.int i0), .val (.int i1), .val (.int (2 : Int32)), .val (.int (43 : Int32)), .val (.ref b1), .unset]) rfl ?_
    show Steps p.tables e below (T5.setTop (mkF m 66 #[.val (.int i0), .val (.int i1), .val (.int (2 : Int32)), .val (.int (43 : Int32)), .val (.ref b1), .unset] [])) _
    refine XS.iloadN X5.here hx rfl (hb hby at_66) rfl ?_
    show Steps p.tables e below (T5.setTop (mkF m 67 #[.val (.int i0), .val (.int i1), .val (.int (2 : Int32)), .val (.int (43 : Int32)), .val (.ref b1), .unset] [(.int (43 : Int32))])) _
    refine st7 _ ?_
    show Steps p.tables e below (T7.setTop (mkF m 70 #[.val (.int i0), .val (.int i1), .val (.int (2 : Int32)), .val (.int (43 : Int32)), .val (.ref b1), .unset] [(.ref r0)])) _
    refine XS.astore X7.here hx rfl (hb hby at_70) rfl rfl (l' := #[.val (.int i0), .val (.int i1), .val (.int (2 : Int32)), .val (.int (43 : Int32)), .val (.ref r0), .unset]) rfl ?_
    show Steps p.tables e below (T7.setTop (mkF m 72 #[.val (.int i0), .val (.int i1), .val (.int (2 : Int32)), .val (.int (43 : Int32)), .val (.ref r0), .unset] [])) _
    refine XS.iloadN X7.here hx rfl (hb hby at_72) rfl ?_
    show Steps p.tables e below (T7.setTop (mkF m 73 #[.val (.int i0), .val (.int i1), .val (.int (2 : Int32)), .val (.int (43 : Int32)), .val (.ref r0), .unset] [(.int (43 : Int32))])) _
    refine st8 _ ?_
    show Steps p.tables e below (T8.setTop (mkF m 76 #[.val (.int i0), .val (.int i1), .val (.int (2 : Int32)), .val (.int (43 : Int32)), .val (.ref r0), .unset] [(.ref r0)])) _
    refine XS.astore X8.here hx rfl (hb hby at_76) rfl rfl (l' := #[.val (.int i0), .val (.int i1), .val (.int (2 : Int32)), .val (.int (43 : Int32)), .val (.ref r0), .val (.ref r0)]) rfl ?_
    show Steps p.tables e below (T8.setTop (mkF m 78 #[.val (.int i0), .val (.int i1), .val (.int (2 : Int32)), .val (.int (43 : Int32)), .val (.ref r0), .val (.ref r0)] [])) _
    refine XS.aload X8.here hx rfl (hb hby at_78) rfl rfl ?_
    show Steps p.tables e below (T8.setTop (mkF m 80 #[.val (.int i0), .val (.int i1), .val (.int (2 : Int32)), .val (.int (43 : Int32)), .val (.ref r0), .val (.ref r0)] [(.ref r0)])) _
    refine XS.aload X8.here hx rfl (hb hby at_80) rfl rfl ?_
    show Steps p.tables e below (T8.setTop (mkF m 82 #[.val (.int i0), .val (.int i1), .val (.int (2 : Int32)), .val (.int (43 : Int32)), .val (.ref r0), .val (.ref r0)] [(.ref r0), (.ref r0)])) _
    refine Jvm.RoadKit.acmp (g := (mkF m 82 #[.val (.int i0), .val (.int i1), .val (.int (2 : Int32)), .val (.int (43 : Int32)), .val (.ref r0), .val (.ref r0)] [(.ref r0), (.ref r0)])) X8 hx rfl rfl rfl (pc0 := 82) (pc' := 85) (same := true) rfl (hb hby at_82) rfl (decide_eq_true rfl) (by decide) (by decide) ?_
    show Steps p.tables e below (T8.setTop (mkF m 85 #[.val (.int i0), .val (.int i1), .val (.int (2 : Int32)), .val (.int (43 : Int32)), .val (.ref r0), .val (.ref r0)] [])) _
    refine XS.iconst X8.here hx rfl (hb hby at_85) ?_
    show Steps p.tables e below (T8.setTop (mkF m 86 #[.val (.int i0), .val (.int i1), .val (.int (2 : Int32)), .val (.int (43 : Int32)), .val (.ref r0), .val (.ref r0)] [(.int (1 : Int32))])) _
    refine XS.goto X8.here hx rfl (pc0 := 86) (pc' := 90) rfl (hb hby at_86) (by decide) (by decide) ?_
    show Steps p.tables e below (T8.setTop (mkF m 90 #[.val (.int i0), .val (.int i1), .val (.int (2 : Int32)), .val (.int (43 : Int32)), .val (.ref r0), .val (.ref r0)] [(.int (1 : Int32))])) _
    exact retN X8 hx (t := .boolean) Bd.returns (by simp) (hb hby at_90) hr
  · exact ⟨rfl, N8⟩
set_option maxRecDepth 65536 in
set_option maxHeartbeats 40000000 in
theorem own_r1_25 (l : Launch) (Z : State) (a0 : Array Value) (hw : ∀ d ∈ tables_1, d.before a0 Z = true) (ws : List Jvm.Cond) (r0 : Addr) (r1 : Addr) (r2 : Addr) (r3 : Addr) (r4 : Addr) (cl_r4 : Cell) (h0 : Heap) (n0 : Nat) (Z0 : n0 ≤ h0.size) (F : own_W Z h0 r0 r1 r2 r3 r4 cl_r4)   :
    MetFree l (⟨"dragoman/Operator", "bySymbol", "(C)Ldragoman/Operator;"⟩ : MethodName) (head1 (Jvm.Cond.code (⟨"dragoman/Operator", "bySymbol", "(C)Ldragoman/Operator;"⟩ : MethodName) prog_26_method_4_code 5 (some (.object "dragoman/Operator")) :: ws) ({ frames := 0, cells := 0, slots := 0, locals := 0 } : Room)) (fun a U => a = #[(.int (45 : Int32))] ∧ Z.Warmed39 U.vm ∧ U.heap = h0) (fun _ _ _ _ _ => True) (fun _ U o U' => ∃ v L, o = .returned v ∧ own_Q (.ref r1) h0 n0 v U'.heap L ∧ FrameEnd U o U' L ({ frames := 0, cells := 0, slots := 0, locals := 0 } : Room).cells ({ frames := 0, cells := 0, slots := 0, locals := 0 } : Room).slots) := by
  obtain ⟨S_r0, E_r0, S_r1, E_r1, S_r2, E_r2, S_r3, E_r3, S_r4, Ar_r4, Sz_r4, El_r4_0, F_r0_symbol, El_r4_1, F_r1_symbol, El_r4_2, F_r2_symbol, El_r4_3, F_r3_symbol, ne_r0_r1, ne_r0_r2, ne_r0_r3, ne_r1_r2, ne_r1_r3, ne_r2_r3⟩ := id F
  refine MetFree.of_bodySF (plainFor_of_name own_pn_Operator) hisR ?_
  intro p e s m args below meth c s₁ Bd hml0 hP hK
  obtain ⟨rfl, hZ, hh⟩ := hP
  have hx := Bd.exec
  have hby := Bd.bytes
  have hml : c.maxLocals = 5 := hml0
  have hown : s.vm.findClass "dragoman/Operator" = some m.cls := findClass_of_methodNamed Bd.named
  have X0 : Stand p l e ({ frames := 0, cells := 0, slots := 0, locals := 0 } : Room) s m #[(.int (45 : Int32))] below meth c s₁ [] 0 0 := Stand.of_body Bd
  have e0 : s₁.heap = h0 := by rw [← hh, Bd.state]; rfl
  have N0 := Fr.nil n0
  have pre0 : ∀ t, Steps p.tables e below (s₁.setTop (mkF m 0 #[.val (.int (45 : Int32)), .unset, .unset, .unset, .unset] [])) t → Steps p.tables e below (s₁.setTop (entryFrame m #[(.int (45 : Int32))] 5)) t := fun t k => castTop (own_ef1_I m (45 : Int32)) k
  obtain ⟨T1, X1, e1, st1⟩ := getS2 X0 hx hZ hown (host := "") (Or.inl (hw _ (List.mem_of_getElem? (i := 5) rfl))) Via.refl e0 S_r4 (g := (mkF m 0 #[.val (.int (45 : Int32)), .unset, .unset, .unset, .unset] [])) rfl (hb hby own_d1_0)
  obtain ⟨T2, X2, e2, st2⟩ := getF X1 hx hZ hown (host := "") (Or.inl (hw _ (List.mem_of_getElem? (i := 8) rfl))) Via.refl e1 F_r0_symbol (g := (mkF m 21 #[.val (.int (45 : Int32)), .val (.ref r4), .val (.int (4 : Int32)), .val (.int (0 : Int32)), .val (.ref r0)] [(.ref r0)])) rfl rfl (hb hby own_d1_21)
  obtain ⟨T3, X3, e3, st3⟩ := getF X2 hx hZ hown (host := "") (Or.inl (hw _ (List.mem_of_getElem? (i := 8) rfl))) Via.refl e2 F_r1_symbol (g := (mkF m 21 #[.val (.int (45 : Int32)), .val (.ref r4), .val (.int (4 : Int32)), .val (.int (1 : Int32)), .val (.ref r1)] [(.ref r1)])) rfl rfl (hb hby own_d1_21)
  obtain ⟨fs, hr, hrun, hended, hW, hsame⟩ := X3.leave (v := some (.ref r1)) (fun h => by rw [Bd.returns] at h; cases h)
  refine ⟨_, _, pre0 _ ?_, hrun, hended, _, _, rfl, ?_, ⟨_, rfl⟩, hW, hsame.mono (by decide) (by decide)⟩
  · show Steps p.tables e below (s₁.setTop (mkF m 0 #[.val (.int (45 : Int32)), .unset, .unset, .unset, .unset] [])) _
    refine st1 _ ?_
    show Steps p.tables e below (T1.setTop (mkF m 3 #[.val (.int (45 : Int32)), .unset, .unset, .unset, .unset] [(.ref r4)])) _
    refine XS.astoreN X1.here hx rfl (hb hby own_d1_3) rfl rfl (l' := #[.val (.int (45 : Int32)), .val (.ref r4), .unset, .unset, .unset]) rfl ?_
    show Steps p.tables e below (T1.setTop (mkF m 4 #[.val (.int (45 : Int32)), .val (.ref r4), .unset, .unset, .unset] [])) _
    refine XS.aloadN X1.here hx rfl (hb hby own_d1_4) rfl rfl ?_
    show Steps p.tables e below (T1.setTop (mkF m 5 #[.val (.int (45 : Int32)), .val (.ref r4), .unset, .unset, .unset] [(.ref r4)])) _
    refine X1.arraylength hx (by rw [e1]; exact Ar_r4.1) (State.isArrayOf_alike hZ.alike Ar_r4.2.1) (g := (mkF m 5 #[.val (.int (45 : Int32)), .val (.ref r4), .unset, .unset, .unset] [(.ref r4)])) rfl rfl (hb hby own_d1_5) _ ?_
    rw [len_of Sz_r4 (by decide)]
    show Steps p.tables e below (T1.setTop (mkF m 6 #[.val (.int (45 : Int32)), .val (.ref r4), .unset, .unset, .unset] [(.int (4 : Int32))])) _
    refine XS.istoreN X1.here hx rfl (hb hby own_d1_6) rfl (l' := #[.val (.int (45 : Int32)), .val (.ref r4), .val (.int (4 : Int32)), .unset, .unset]) rfl ?_
    show Steps p.tables e below (T1.setTop (mkF m 7 #[.val (.int (45 : Int32)), .val (.ref r4), .val (.int (4 : Int32)), .unset, .unset] [])) _
    refine XS.iconst X1.here hx rfl (hb hby own_d1_7) ?_
    show Steps p.tables e below (T1.setTop (mkF m 8 #[.val (.int (45 : Int32)), .val (.ref r4), .val (.int (4 : Int32)), .unset, .unset] [(.int (0 : Int32))])) _
    refine XS.istoreN X1.here hx rfl (hb hby own_d1_8) rfl (l' := #[.val (.int (45 : Int32)), .val (.ref r4), .val (.int (4 : Int32)), .val (.int (0 : Int32)), .unset]) rfl ?_
    show Steps p.tables e below (T1.setTop (mkF m 9 #[.val (.int (45 : Int32)), .val (.ref r4), .val (.int (4 : Int32)), .val (.int (0 : Int32)), .unset] [])) _
    refine XS.iloadN X1.here hx rfl (hb hby own_d1_9) rfl ?_
    show Steps p.tables e below (T1.setTop (mkF m 10 #[.val (.int (45 : Int32)), .val (.ref r4), .val (.int (4 : Int32)), .val (.int (0 : Int32)), .unset] [(.int (0 : Int32))])) _
    refine XS.iloadN X1.here hx rfl (hb hby own_d1_10) rfl ?_
    show Steps p.tables e below (T1.setTop (mkF m 11 #[.val (.int (45 : Int32)), .val (.ref r4), .val (.int (4 : Int32)), .val (.int (0 : Int32)), .unset] [(.int (4 : Int32)), (.int (0 : Int32))])) _
    refine XS.icmpNo X1.here hx rfl (hb hby own_d1_11) rfl (tlt (by decide : (0 : Int32) < (4 : Int32))).2.1 ?_
    show Steps p.tables e below (T1.setTop (mkF m 14 #[.val (.int (45 : Int32)), .val (.ref r4), .val (.int (4 : Int32)), .val (.int (0 : Int32)), .unset] [])) _
    refine XS.aloadN X1.here hx rfl (hb hby own_d1_14) rfl rfl ?_
    show Steps p.tables e below (T1.setTop (mkF m 15 #[.val (.int (45 : Int32)), .val (.ref r4), .val (.int (4 : Int32)), .val (.int (0 : Int32)), .unset] [(.ref r4)])) _
    refine XS.iloadN X1.here hx rfl (hb hby own_d1_15) rfl ?_
    show Steps p.tables e below (T1.setTop (mkF m 16 #[.val (.int (45 : Int32)), .val (.ref r4), .val (.int (4 : Int32)), .val (.int (0 : Int32)), .unset] [(.int (0 : Int32)), (.ref r4)])) _
    refine X1.aaload hx (j := (0 : Int32)) (v := (.ref r0)) (by rw [e1]; exact Ar_r4.1) (State.isArrayOf_alike hZ.alike Ar_r4.2.1) rfl Ar_r4.2.2 (inb_of Sz_r4 ⟨by decide, by decide⟩) El_r4_0 (g := (mkF m 16 #[.val (.int (45 : Int32)), .val (.ref r4), .val (.int (4 : Int32)), .val (.int (0 : Int32)), .unset] [(.int (0 : Int32)), (.ref r4)])) rfl rfl (hb hby own_d1_16) _ ?_
    show Steps p.tables e below (T1.setTop (mkF m 17 #[.val (.int (45 : Int32)), .val (.ref r4), .val (.int (4 : Int32)), .val (.int (0 : Int32)), .unset] [(.ref r0)])) _
    refine XS.astore X1.here hx rfl (hb hby own_d1_17) rfl rfl (l' := #[.val (.int (45 : Int32)), .val (.ref r4), .val (.int (4 : Int32)), .val (.int (0 : Int32)), .val (.ref r0)]) rfl ?_
    show Steps p.tables e below (T1.setTop (mkF m 19 #[.val (.int (45 : Int32)), .val (.ref r4), .val (.int (4 : Int32)), .val (.int (0 : Int32)), .val (.ref r0)] [])) _
    refine XS.aload X1.here hx rfl (hb hby own_d1_19) rfl rfl ?_
    show Steps p.tables e below (T1.setTop (mkF m 21 #[.val (.int (45 : Int32)), .val (.ref r4), .val (.int (4 : Int32)), .val (.int (0 : Int32)), .val (.ref r0)] [(.ref r0)])) _
    refine st2 _ ?_
    show Steps p.tables e below (T2.setTop (mkF m 24 #[.val (.int (45 : Int32)), .val (.ref r4), .val (.int (4 : Int32)), .val (.int (0 : Int32)), .val (.ref r0)] [(.int (43 : Int32))])) _
    refine XS.iloadN X2.here hx rfl (hb hby own_d1_24) rfl ?_
    show Steps p.tables e below (T2.setTop (mkF m 25 #[.val (.int (45 : Int32)), .val (.ref r4), .val (.int (4 : Int32)), .val (.int (0 : Int32)), .val (.ref r0)] [(.int (45 : Int32)), (.int (43 : Int32))])) _
    refine XS.icmpYes X2.here hx rfl (pc0 := 25) (pc' := 31) rfl (hb hby own_d1_25) rfl (feq (by decide : ¬ ((43 : Int32) = (45 : Int32)))).2 (by decide) (by decide) ?_
    show Steps p.tables e below (T2.setTop (mkF m 31 #[.val (.int (45 : Int32)), .val (.ref r4), .val (.int (4 : Int32)), .val (.int (0 : Int32)), .val (.ref r0)] [])) _
    refine XS.iinc X2.here hx rfl (hb hby own_d1_31) rfl (l' := #[.val (.int (45 : Int32)), .val (.ref r4), .val (.int (4 : Int32)), .val (.int ((0 : Int32) + (1 : Int32))), .val (.ref r0)]) rfl ?_
    show Steps p.tables e below (T2.setTop (mkF m 34 #[.val (.int (45 : Int32)), .val (.ref r4), .val (.int (4 : Int32)), .val (.int ((0 : Int32) + (1 : Int32))), .val (.ref r0)] [])) _
    rw [show ((0 : Int32) + (1 : Int32)) = (1 : Int32) from by decide]
    show Steps p.tables e below (T2.setTop (mkF m 34 #[.val (.int (45 : Int32)), .val (.ref r4), .val (.int (4 : Int32)), .val (.int (1 : Int32)), .val (.ref r0)] [])) _
    refine XS.goto X2.here hx rfl (pc0 := 34) (pc' := 9) rfl (hb hby own_d1_34) (by decide) (by decide) ?_
    show Steps p.tables e below (T2.setTop (mkF m 9 #[.val (.int (45 : Int32)), .val (.ref r4), .val (.int (4 : Int32)), .val (.int (1 : Int32)), .val (.ref r0)] [])) _
    refine XS.iloadN X2.here hx rfl (hb hby own_d1_9) rfl ?_
    show Steps p.tables e below (T2.setTop (mkF m 10 #[.val (.int (45 : Int32)), .val (.ref r4), .val (.int (4 : Int32)), .val (.int (1 : Int32)), .val (.ref r0)] [(.int (1 : Int32))])) _
    refine XS.iloadN X2.here hx rfl (hb hby own_d1_10) rfl ?_
    show Steps p.tables e below (T2.setTop (mkF m 11 #[.val (.int (45 : Int32)), .val (.ref r4), .val (.int (4 : Int32)), .val (.int (1 : Int32)), .val (.ref r0)] [(.int (4 : Int32)), (.int (1 : Int32))])) _
    refine XS.icmpNo X2.here hx rfl (hb hby own_d1_11) rfl (tlt (by decide : (1 : Int32) < (4 : Int32))).2.1 ?_
    show Steps p.tables e below (T2.setTop (mkF m 14 #[.val (.int (45 : Int32)), .val (.ref r4), .val (.int (4 : Int32)), .val (.int (1 : Int32)), .val (.ref r0)] [])) _
    refine XS.aloadN X2.here hx rfl (hb hby own_d1_14) rfl rfl ?_
    show Steps p.tables e below (T2.setTop (mkF m 15 #[.val (.int (45 : Int32)), .val (.ref r4), .val (.int (4 : Int32)), .val (.int (1 : Int32)), .val (.ref r0)] [(.ref r4)])) _
    refine XS.iloadN X2.here hx rfl (hb hby own_d1_15) rfl ?_
    show Steps p.tables e below (T2.setTop (mkF m 16 #[.val (.int (45 : Int32)), .val (.ref r4), .val (.int (4 : Int32)), .val (.int (1 : Int32)), .val (.ref r0)] [(.int (1 : Int32)), (.ref r4)])) _
    refine X2.aaload hx (j := (1 : Int32)) (v := (.ref r1)) (by rw [e2]; exact Ar_r4.1) (State.isArrayOf_alike hZ.alike Ar_r4.2.1) rfl Ar_r4.2.2 (inb_of Sz_r4 ⟨by decide, by decide⟩) El_r4_1 (g := (mkF m 16 #[.val (.int (45 : Int32)), .val (.ref r4), .val (.int (4 : Int32)), .val (.int (1 : Int32)), .val (.ref r0)] [(.int (1 : Int32)), (.ref r4)])) rfl rfl (hb hby own_d1_16) _ ?_
    show Steps p.tables e below (T2.setTop (mkF m 17 #[.val (.int (45 : Int32)), .val (.ref r4), .val (.int (4 : Int32)), .val (.int (1 : Int32)), .val (.ref r0)] [(.ref r1)])) _
    refine XS.astore X2.here hx rfl (hb hby own_d1_17) rfl rfl (l' := #[.val (.int (45 : Int32)), .val (.ref r4), .val (.int (4 : Int32)), .val (.int (1 : Int32)), .val (.ref r1)]) rfl ?_
    show Steps p.tables e below (T2.setTop (mkF m 19 #[.val (.int (45 : Int32)), .val (.ref r4), .val (.int (4 : Int32)), .val (.int (1 : Int32)), .val (.ref r1)] [])) _
    refine XS.aload X2.here hx rfl (hb hby own_d1_19) rfl rfl ?_
    show Steps p.tables e below (T2.setTop (mkF m 21 #[.val (.int (45 : Int32)), .val (.ref r4), .val (.int (4 : Int32)), .val (.int (1 : Int32)), .val (.ref r1)] [(.ref r1)])) _
    refine st3 _ ?_
    show Steps p.tables e below (T3.setTop (mkF m 24 #[.val (.int (45 : Int32)), .val (.ref r4), .val (.int (4 : Int32)), .val (.int (1 : Int32)), .val (.ref r1)] [(.int (45 : Int32))])) _
    refine XS.iloadN X3.here hx rfl (hb hby own_d1_24) rfl ?_
    show Steps p.tables e below (T3.setTop (mkF m 25 #[.val (.int (45 : Int32)), .val (.ref r4), .val (.int (4 : Int32)), .val (.int (1 : Int32)), .val (.ref r1)] [(.int (45 : Int32)), (.int (45 : Int32))])) _
    refine XS.icmpNo X3.here hx rfl (hb hby own_d1_25) rfl (teq (by decide : (45 : Int32) = (45 : Int32))).2 ?_
    show Steps p.tables e below (T3.setTop (mkF m 28 #[.val (.int (45 : Int32)), .val (.ref r4), .val (.int (4 : Int32)), .val (.int (1 : Int32)), .val (.ref r1)] [])) _
    refine XS.aload X3.here hx rfl (hb hby own_d1_28) rfl rfl ?_
    show Steps p.tables e below (T3.setTop (mkF m 30 #[.val (.int (45 : Int32)), .val (.ref r4), .val (.int (4 : Int32)), .val (.int (1 : Int32)), .val (.ref r1)] [(.ref r1)])) _
    jvm_step X3.here [X3.here.top, hx, (hb hby own_d1_30), X3.method', Bd.returns, Value.isRef, FieldType.isReference]
    first | (intro acts; rw [hr _ acts rfl rfl rfl]) | rw [hr _ _ rfl rfl rfl]
    exact Steps.refl _
  · exact ⟨rfl, N0, e3⟩
set_option maxRecDepth 65536 in
set_option maxHeartbeats 40000000 in
theorem own_r2_26 (l : Launch) (Z : State) (a0 : Array Value) (hw : ∀ d ∈ tables_1, d.before a0 Z = true) (ws : List Jvm.Cond) (r0 : Addr) (r1 : Addr) (r2 : Addr) (r3 : Addr) (r4 : Addr) (cl_r4 : Cell) (h0 : Heap) (n0 : Nat) (Z0 : n0 ≤ h0.size) (F : own_W Z h0 r0 r1 r2 r3 r4 cl_r4)   :
    MetFree l (⟨"dragoman/OperatorBySymbolPinLaw", "expected", "(C)Ldragoman/Operator;"⟩ : MethodName) (head1 (Jvm.Cond.code (⟨"dragoman/OperatorBySymbolPinLaw", "expected", "(C)Ldragoman/Operator;"⟩ : MethodName) method_3_code 1 (some (.object "dragoman/Operator")) :: ws) ({ frames := 0, cells := 0, slots := 0, locals := 0 } : Room)) (fun a U => a = #[(.int (45 : Int32))] ∧ Z.Warmed39 U.vm ∧ U.heap = h0) (fun _ _ _ _ _ => True) (fun _ U o U' => ∃ v L, o = .returned v ∧ own_Q (.ref r1) h0 n0 v U'.heap L ∧ FrameEnd U o U' L ({ frames := 0, cells := 0, slots := 0, locals := 0 } : Room).cells ({ frames := 0, cells := 0, slots := 0, locals := 0 } : Room).slots) := by
  obtain ⟨S_r0, E_r0, S_r1, E_r1, S_r2, E_r2, S_r3, E_r3, S_r4, Ar_r4, Sz_r4, El_r4_0, F_r0_symbol, El_r4_1, F_r1_symbol, El_r4_2, F_r2_symbol, El_r4_3, F_r3_symbol, ne_r0_r1, ne_r0_r2, ne_r0_r3, ne_r1_r2, ne_r1_r3, ne_r2_r3⟩ := id F
  refine MetFree.of_bodySF (plainFor_of_name own_pn_OperatorBySymbolPinLaw) hisR ?_
  intro p e s m args below meth c s₁ Bd hml0 hP hK
  obtain ⟨rfl, hZ, hh⟩ := hP
  have hx := Bd.exec
  have hby := Bd.bytes
  have hml : c.maxLocals = 1 := hml0
  have hown : s.vm.findClass "dragoman/OperatorBySymbolPinLaw" = some m.cls := findClass_of_methodNamed Bd.named
  have X0 : Stand p l e ({ frames := 0, cells := 0, slots := 0, locals := 0 } : Room) s m #[(.int (45 : Int32))] below meth c s₁ [] 0 0 := Stand.of_body Bd
  have e0 : s₁.heap = h0 := by rw [← hh, Bd.state]; rfl
  have N0 := Fr.nil n0
  have pre0 : ∀ t, Steps p.tables e below (s₁.setTop (mkF m 0 #[.val (.int (45 : Int32))] [])) t → Steps p.tables e below (s₁.setTop (entryFrame m #[(.int (45 : Int32))] 1)) t := fun t k => castTop (own_ef2_I m (45 : Int32)) k
  obtain ⟨T1, X1, e1, st1⟩ := getS2 X0 hx hZ hown (host := "") (Or.inl (hw _ (List.mem_of_getElem? (i := 20) rfl))) Via.refl e0 S_r1 (g := (mkF m 16 #[.val (.int (45 : Int32))] [])) rfl (hb hby own_d2_16)
  obtain ⟨fs, hr, hrun, hended, hW, hsame⟩ := X1.leave (v := some (.ref r1)) (fun h => by rw [Bd.returns] at h; cases h)
  refine ⟨_, _, pre0 _ ?_, hrun, hended, _, _, rfl, ?_, ⟨_, rfl⟩, hW, hsame.mono (by decide) (by decide)⟩
  · show Steps p.tables e below (s₁.setTop (mkF m 0 #[.val (.int (45 : Int32))] [])) _
    refine XS.iloadN X0.here hx rfl (hb hby own_d2_0) rfl ?_
    show Steps p.tables e below (s₁.setTop (mkF m 1 #[.val (.int (45 : Int32))] [(.int (45 : Int32))])) _
    refine XS.bipush X0.here hx rfl (hb hby own_d2_1) ?_
    show Steps p.tables e below (s₁.setTop (mkF m 3 #[.val (.int (45 : Int32))] [(.int (43 : Int32)), (.int (45 : Int32))])) _
    refine XS.icmpYes X0.here hx rfl (pc0 := 3) (pc' := 10) rfl (hb hby own_d2_3) rfl (feq (by decide : ¬ ((45 : Int32) = (43 : Int32)))).2 (by decide) (by decide) ?_
    show Steps p.tables e below (s₁.setTop (mkF m 10 #[.val (.int (45 : Int32))] [])) _
    refine XS.iloadN X0.here hx rfl (hb hby own_d2_10) rfl ?_
    show Steps p.tables e below (s₁.setTop (mkF m 11 #[.val (.int (45 : Int32))] [(.int (45 : Int32))])) _
    refine XS.bipush X0.here hx rfl (hb hby own_d2_11) ?_
    show Steps p.tables e below (s₁.setTop (mkF m 13 #[.val (.int (45 : Int32))] [(.int (45 : Int32)), (.int (45 : Int32))])) _
    refine XS.icmpNo X0.here hx rfl (hb hby own_d2_13) rfl (teq (by decide : (45 : Int32) = (45 : Int32))).2 ?_
    show Steps p.tables e below (s₁.setTop (mkF m 16 #[.val (.int (45 : Int32))] [])) _
    refine st1 _ ?_
    show Steps p.tables e below (T1.setTop (mkF m 19 #[.val (.int (45 : Int32))] [(.ref r1)])) _
    jvm_step X1.here [X1.here.top, hx, (hb hby own_d2_19), X1.method', Bd.returns, Value.isRef, FieldType.isReference]
    first | (intro acts; rw [hr _ acts rfl rfl rfl]) | rw [hr _ _ rfl rfl rfl]
    exact Steps.refl _
  · exact ⟨rfl, N0, e1⟩
set_option maxRecDepth 65536 in
set_option maxHeartbeats 40000000 in
theorem own_r0_m2j1 (l : Launch) (Z : State) (a0 : Array Value) (hw : ∀ d ∈ tables_1, d.before a0 Z = true) (ws : List Jvm.Cond) (r0 : Addr) (r1 : Addr) (r2 : Addr) (r3 : Addr) (r4 : Addr) (cl_r4 : Cell) (h0 : Heap) (n0 : Nat) (Z0 : n0 ≤ h0.size) (F : own_W Z h0 r0 r1 r2 r3 r4 cl_r4) (i0 : Int32) (i1 : Int32) (hm : (i1 &&& (3 : Int32)) = (2 : Int32)) (hj : (i0 &&& (3 : Int32)) = (1 : Int32)) :
    MetFree l x (head1 (Jvm.Cond.code x code maxLocals ret :: ws) room_1) (fun a U => a = #[(.int i0), (.int i1)] ∧ Z.Warmed39 U.vm ∧ U.heap = h0) (fun _ _ _ _ _ => True) (fun _ U o U' => ∃ v L, o = .returned v ∧ own_Q0 (.int (1 : Int32)) n0 v U'.heap L ∧ FrameEnd U o U' L room_1.cells room_1.slots) := by
  obtain ⟨S_r0, E_r0, S_r1, E_r1, S_r2, E_r2, S_r3, E_r3, S_r4, Ar_r4, Sz_r4, El_r4_0, F_r0_symbol, El_r4_1, F_r1_symbol, El_r4_2, F_r2_symbol, El_r4_3, F_r3_symbol, ne_r0_r1, ne_r0_r2, ne_r0_r3, ne_r1_r2, ne_r1_r3, ne_r2_r3⟩ := id F
  refine MetFree.of_bodySF (plainFor_of_name own_pn_OperatorBySymbolPinLaw) hisR ?_
  intro p e s m args below meth c s₁ Bd hml0 hP hK
  obtain ⟨rfl, hZ, hh⟩ := hP
  have hx := Bd.exec
  have hby := Bd.bytes
  have hml : c.maxLocals = 6 := hml0
  have hown : s.vm.findClass "dragoman/OperatorBySymbolPinLaw" = some m.cls := findClass_of_methodNamed Bd.named
  have X0 : Stand p l e room_1 s m #[(.int i0), (.int i1)] below meth c s₁ [] 0 0 := Stand.of_body Bd
  have e0 : s₁.heap = h0 := by rw [← hh, Bd.state]; rfl
  have N0 := Fr.nil n0
  have pre0 : ∀ t, Steps p.tables e below (s₁.setTop (mkF m 0 #[.val (.int i0), .val (.int i1), .unset, .unset, .unset, .unset] [])) t → Steps p.tables e below (s₁.setTop (entryFrame m #[(.int i0), (.int i1)] maxLocals)) t := fun t k => castTop (own_ef0_II m i0 i1) k
  obtain ⟨T1, h1, k1, X1, e1, E1, A1, st1⟩ := newP X0 hx hZ (hw _ (List.mem_of_getElem? (i := 0) rfl)) e0 (g := (mkF m 35 #[.val (.int i0), .val (.int i1), .val (.int (2 : Int32)), .unset, .unset, .unset] [(.int (4 : Int32))])) rfl (hb hby at_35) rfl (by decide) (cap := 4) (by decide) (by decide) (by decide) (by decide)
  obtain ⟨b1, g1⟩ : ∃ z, z = h0.size := ⟨_, rfl⟩
  rw [← g1] at A1 st1
  have V_1 : Arv Z h1 b1 k1 .char (4 : Int32) [(.int (0 : Int32)), (.int (0 : Int32)), (.int (0 : Int32)), (.int (0 : Int32))] (.int (0 : Int32)) := (Arv.new A1 (by decide)).pad (pad_rep [] (.int (0 : Int32)) 4)
  have g_b1 : n0 ≤ b1 := Nat.le_trans Z0 (Nat.le_of_eq g1.symm)
  have sz_b1 : h0.size ≤ b1 := Nat.le_trans (Keep.refl h0 []).1 (Nat.le_of_eq g1.symm)
  have K1 : Keep h0 h1 [] := (Keep.refl h0 []).ext E1
  have F1 : own_W Z h1 r0 r1 r2 r3 r4 cl_r4 := own_W_ext ⟨K1.1, fun a c q => K1.2.1 a c q (by simp)⟩ F
  obtain ⟨cl_2, Ar_2, q_2, S_2, N_2, H_2, G_2⟩ := V_1
  obtain ⟨T2, h2, X2, e2, W2, st2⟩ := stC X1 hx hZ e1 Ar_2 (j := (0 : Int32)) (inb_of S_2 ⟨by decide, by decide⟩) (g := (mkF m 41 #[.val (.int i0), .val (.int i1), .val (.int (2 : Int32)), .unset, .unset, .unset] [(.int (43 : Int32)), (.int (0 : Int32)), (.ref b1), (.ref b1)])) rfl rfl (hb hby at_41)
  have V_2 := Arv.set Ar_2 q_2 S_2 N_2 H_2 G_2 (fits_nar_char _) W2 0 rfl (Nat.le_of_ble_eq_true rfl)
  have K2 : Keep h0 h2 [] := K1.wr W2 (Or.inr sz_b1)
  have N2 := Fr.snoc X2 N0 g_b1
  have F2 : own_W Z h2 r0 r1 r2 r3 r4 cl_r4 := own_W_ext ⟨K2.1, fun a c q => K2.2.1 a c q (by simp)⟩ F
  obtain ⟨cl_3, Ar_3, q_3, S_3, N_3, H_3, G_3⟩ := V_2
  obtain ⟨T3, h3, X3, e3, W3, st3⟩ := stC X2 hx hZ e2 Ar_3 (j := (1 : Int32)) (inb_of S_3 ⟨by decide, by decide⟩) (g := (mkF m 46 #[.val (.int i0), .val (.int i1), .val (.int (2 : Int32)), .unset, .unset, .unset] [(.int (45 : Int32)), (.int (1 : Int32)), (.ref b1), (.ref b1)])) rfl rfl (hb hby at_46)
  have V_3 := Arv.set Ar_3 q_3 S_3 N_3 H_3 G_3 (fits_nar_char _) W3 1 rfl (Nat.le_of_ble_eq_true rfl)
  have K3 : Keep h0 h3 [] := K2.wr W3 (Or.inr sz_b1)
  have N3 := Fr.snoc X3 N2 g_b1
  have F3 : own_W Z h3 r0 r1 r2 r3 r4 cl_r4 := own_W_ext ⟨K3.1, fun a c q => K3.2.1 a c q (by simp)⟩ F
  obtain ⟨cl_4, Ar_4, q_4, S_4, N_4, H_4, G_4⟩ := V_3
  obtain ⟨T4, h4, X4, e4, W4, st4⟩ := stC X3 hx hZ e3 Ar_4 (j := (2 : Int32)) (inb_of S_4 ⟨by decide, by decide⟩) (g := (mkF m 51 #[.val (.int i0), .val (.int i1), .val (.int (2 : Int32)), .unset, .unset, .unset] [(.int (42 : Int32)), (.int (2 : Int32)), (.ref b1), (.ref b1)])) rfl rfl (hb hby at_51)
  have V_4 := Arv.set Ar_4 q_4 S_4 N_4 H_4 G_4 (fits_nar_char _) W4 2 rfl (Nat.le_of_ble_eq_true rfl)
  have K4 : Keep h0 h4 [] := K3.wr W4 (Or.inr sz_b1)
  have N4 := Fr.snoc X4 N3 g_b1
  have F4 : own_W Z h4 r0 r1 r2 r3 r4 cl_r4 := own_W_ext ⟨K4.1, fun a c q => K4.2.1 a c q (by simp)⟩ F
  obtain ⟨cl_5, Ar_5, q_5, S_5, N_5, H_5, G_5⟩ := V_4
  obtain ⟨T5, h5, X5, e5, W5, st5⟩ := stC X4 hx hZ e4 Ar_5 (j := (3 : Int32)) (inb_of S_5 ⟨by decide, by decide⟩) (g := (mkF m 56 #[.val (.int i0), .val (.int i1), .val (.int (2 : Int32)), .unset, .unset, .unset] [(.int (47 : Int32)), (.int (3 : Int32)), (.ref b1), (.ref b1)])) rfl rfl (hb hby at_56)
  have V_5 := Arv.set Ar_5 q_5 S_5 N_5 H_5 G_5 (fits_nar_char _) W5 3 rfl (Nat.le_of_ble_eq_true rfl)
  have K5 : Keep h0 h5 [] := K4.wr W5 (Or.inr sz_b1)
  have N5 := Fr.snoc X5 N4 g_b1
  have F5 : own_W Z h5 r0 r1 r2 r3 r4 cl_r4 := own_W_ext ⟨K5.1, fun a c q => K5.2.1 a c q (by simp)⟩ F
  obtain ⟨cl_6, Ar_6, q_6, S_6, N_6, H_6, G_6⟩ := id V_5
  have hin6 : ¬ ((1 : Int32) < 0 ∨ cl_6.slots.size ≤ ((1 : Int32)).toNatClampNeg) := inb_of S_6 ⟨by decide, by decide⟩
  have hat6 : cl_6.slots[((1 : Int32)).toNatClampNeg]? = some (.int (45 : Int32)) := Has.at H_6 hin6 rfl
  obtain ⟨_, _, ⟨T7, L7, k7, n7⟩, -, X7, ⟨Lc7, hQ7, l7, y7, z7⟩, st7⟩ := Jvm.LawKit.callS X5 hx (y := (⟨"dragoman/Operator", "bySymbol", "(C)Ldragoman/Operator;"⟩ : MethodName)) hown (mvT hZ (hw _ (List.mem_of_getElem? (i := 1) rfl))) (mvT hZ (hw _ (List.mem_of_getElem? (i := 2) rfl))) (mvT hZ (hw _ (List.mem_of_getElem? (i := 3) rfl))) (mvT hZ (hw _ (List.mem_of_getElem? (i := 4) rfl))) (by decide) (backOf (W := 0) (own_r1_25 l Z a0 hw [] r0 r1 r2 r3 r4 cl_r4 h5 n0 (Nat.le_trans Z0 K5.1) F5 ) hZ (hw _ (List.mem_of_getElem? (i := 4) rfl)) (hw _ (List.mem_of_getElem? (i := 3) rfl)) (by decide) (by decide)) (g := (mkF m 67 #[.val (.int i0), .val (.int i1), .val (.int (2 : Int32)), .val (.int (45 : Int32)), .val (.ref b1), .unset] [(.int (45 : Int32))])) rfl (by rw [hml]; rfl) (argsL := [(.int (45 : Int32))]) (rest := []) (lenOf own_pd0 rfl) rfl (by show 2 * 0 + _ ≤ _; exact Nat.le_of_eq rfl) (hb hby at_67) (fun _ _ => ⟨rfl, e5, (by decide : 1 + 0 ≤ _), (by decide : 4 + 0 ≤ _)⟩)
  dsimp only [Pt.U, Pt.locs, Pt.cells, Pt.slots] at X7 l7 y7 z7 st7 hQ7
  subst l7 y7 z7
  obtain ⟨rfl, N7q, e7⟩ := hQ7
  have N7 := Fr.app N5 N7q
  obtain ⟨_, _, ⟨T8, L8, k8, n8⟩, -, X8, ⟨Lc8, hQ8, l8, y8, z8⟩, st8⟩ := Jvm.LawKit.callS X7 hx (y := (⟨"dragoman/OperatorBySymbolPinLaw", "expected", "(C)Ldragoman/Operator;"⟩ : MethodName)) hown (mvT hZ (hw _ (List.mem_of_getElem? (i := 10) rfl))) (mvT hZ (hw _ (List.mem_of_getElem? (i := 11) rfl))) (mvT hZ (hw _ (List.mem_of_getElem? (i := 12) rfl))) (mvT hZ (hw _ (List.mem_of_getElem? (i := 13) rfl))) (by decide) (backOf (W := 0) (own_r2_26 l Z a0 hw [] r0 r1 r2 r3 r4 cl_r4 h5 n0 (Nat.le_trans Z0 K5.1) F5 ) hZ (hw _ (List.mem_of_getElem? (i := 13) rfl)) (hw _ (List.mem_of_getElem? (i := 12) rfl)) (by decide) (by decide)) (g := (mkF m 73 #[.val (.int i0), .val (.int i1), .val (.int (2 : Int32)), .val (.int (45 : Int32)), .val (.ref r1), .unset] [(.int (45 : Int32))])) rfl (by rw [hml]; rfl) (argsL := [(.int (45 : Int32))]) (rest := []) (lenOf own_pd0 rfl) rfl (by show 2 * 0 + _ ≤ _; exact Nat.le_of_eq rfl) (hb hby at_73) (fun _ _ => ⟨rfl, e7, (by decide : 1 + 0 ≤ _), (by decide : 4 + 0 ≤ _)⟩)
  dsimp only [Pt.U, Pt.locs, Pt.cells, Pt.slots] at X8 l8 y8 z8 st8 hQ8
  subst l8 y8 z8
  obtain ⟨rfl, N8q, e8⟩ := hQ8
  have N8 := Fr.app N7 N8q
  obtain ⟨fs, hr, hrun, hended, hW, hsame⟩ := X8.leave (v := some (.int (1 : Int32))) (fun h => by rw [Bd.returns] at h; cases h)
  refine ⟨_, _, pre0 _ ?_, hrun, hended, _, _, rfl, ?_, ⟨_, rfl⟩, hW, hsame.mono (by decide) (by decide)⟩
  · show Steps p.tables e below (s₁.setTop (mkF m 0 #[.val (.int i0), .val (.int i1), .unset, .unset, .unset, .unset] [])) _
    refine XS.iloadN X0.here hx rfl (hb hby at_0) rfl ?_
    show Steps p.tables e below (s₁.setTop (mkF m 1 #[.val (.int i0), .val (.int i1), .unset, .unset, .unset, .unset] [(.int i1)])) _
    refine XS.iconst X0.here hx rfl (hb hby at_1) ?_
    show Steps p.tables e below (s₁.setTop (mkF m 2 #[.val (.int i0), .val (.int i1), .unset, .unset, .unset, .unset] [(.int (3 : Int32)), (.int i1)])) _
    refine XS.iand X0.here hx rfl (hb hby at_2) rfl ?_
    show Steps p.tables e below (s₁.setTop (mkF m 3 #[.val (.int i0), .val (.int i1), .unset, .unset, .unset, .unset] [(.int (i1 &&& (3 : Int32)))])) _
    rw [hm]
    show Steps p.tables e below (s₁.setTop (mkF m 3 #[.val (.int i0), .val (.int i1), .unset, .unset, .unset, .unset] [(.int (2 : Int32))])) _
    refine XS.istoreN X0.here hx rfl (hb hby at_3) rfl (l' := #[.val (.int i0), .val (.int i1), .val (.int (2 : Int32)), .unset, .unset, .unset]) rfl ?_
    show Steps p.tables e below (s₁.setTop (mkF m 4 #[.val (.int i0), .val (.int i1), .val (.int (2 : Int32)), .unset, .unset, .unset] [])) _
    refine XS.iloadN X0.here hx rfl (hb hby at_4) rfl ?_
    show Steps p.tables e below (s₁.setTop (mkF m 5 #[.val (.int i0), .val (.int i1), .val (.int (2 : Int32)), .unset, .unset, .unset] [(.int (2 : Int32))])) _
    refine XS.ifYes X0.here hx rfl (pc0 := 5) (pc' := 17) rfl (hb hby at_5) rfl ((if0 _ _).trans (feq (by decide : ¬ ((2 : Int32) = (0 : Int32)))).2) (by decide) (by decide) ?_
    show Steps p.tables e below (s₁.setTop (mkF m 17 #[.val (.int i0), .val (.int i1), .val (.int (2 : Int32)), .unset, .unset, .unset] [])) _
    refine XS.iloadN X0.here hx rfl (hb hby at_17) rfl ?_
    show Steps p.tables e below (s₁.setTop (mkF m 18 #[.val (.int i0), .val (.int i1), .val (.int (2 : Int32)), .unset, .unset, .unset] [(.int (2 : Int32))])) _
    refine XS.iconst X0.here hx rfl (hb hby at_18) ?_
    show Steps p.tables e below (s₁.setTop (mkF m 19 #[.val (.int i0), .val (.int i1), .val (.int (2 : Int32)), .unset, .unset, .unset] [(.int (1 : Int32)), (.int (2 : Int32))])) _
    refine XS.icmpYes X0.here hx rfl (pc0 := 19) (pc' := 34) rfl (hb hby at_19) rfl (feq (by decide : ¬ ((2 : Int32) = (1 : Int32)))).2 (by decide) (by decide) ?_
    show Steps p.tables e below (s₁.setTop (mkF m 34 #[.val (.int i0), .val (.int i1), .val (.int (2 : Int32)), .unset, .unset, .unset] [])) _
    refine XS.iconst X0.here hx rfl (hb hby at_34) ?_
    show Steps p.tables e below (s₁.setTop (mkF m 35 #[.val (.int i0), .val (.int i1), .val (.int (2 : Int32)), .unset, .unset, .unset] [(.int (4 : Int32))])) _
    refine st1 _ ?_
    show Steps p.tables e below (T1.setTop (mkF m 37 #[.val (.int i0), .val (.int i1), .val (.int (2 : Int32)), .unset, .unset, .unset] [(.ref b1)])) _
    refine XS.dup X1.here hx rfl (hb hby at_37) rfl rfl ?_
    show Steps p.tables e below (T1.setTop (mkF m 38 #[.val (.int i0), .val (.int i1), .val (.int (2 : Int32)), .unset, .unset, .unset] [(.ref b1), (.ref b1)])) _
    refine XS.iconst X1.here hx rfl (hb hby at_38) ?_
    show Steps p.tables e below (T1.setTop (mkF m 39 #[.val (.int i0), .val (.int i1), .val (.int (2 : Int32)), .unset, .unset, .unset] [(.int (0 : Int32)), (.ref b1), (.ref b1)])) _
    refine XS.bipush X1.here hx rfl (hb hby at_39) ?_
    show Steps p.tables e below (T1.setTop (mkF m 41 #[.val (.int i0), .val (.int i1), .val (.int (2 : Int32)), .unset, .unset, .unset] [(.int (43 : Int32)), (.int (0 : Int32)), (.ref b1), (.ref b1)])) _
    refine st2 _ ?_
    show Steps p.tables e below (T2.setTop (mkF m 42 #[.val (.int i0), .val (.int i1), .val (.int (2 : Int32)), .unset, .unset, .unset] [(.ref b1)])) _
    refine XS.dup X2.here hx rfl (hb hby at_42) rfl rfl ?_
    show Steps p.tables e below (T2.setTop (mkF m 43 #[.val (.int i0), .val (.int i1), .val (.int (2 : Int32)), .unset, .unset, .unset] [(.ref b1), (.ref b1)])) _
    refine XS.iconst X2.here hx rfl (hb hby at_43) ?_
    show Steps p.tables e below (T2.setTop (mkF m 44 #[.val (.int i0), .val (.int i1), .val (.int (2 : Int32)), .unset, .unset, .unset] [(.int (1 : Int32)), (.ref b1), (.ref b1)])) _
    refine XS.bipush X2.here hx rfl (hb hby at_44) ?_
    show Steps p.tables e below (T2.setTop (mkF m 46 #[.val (.int i0), .val (.int i1), .val (.int (2 : Int32)), .unset, .unset, .unset] [(.int (45 : Int32)), (.int (1 : Int32)), (.ref b1), (.ref b1)])) _
    refine st3 _ ?_
    show Steps p.tables e below (T3.setTop (mkF m 47 #[.val (.int i0), .val (.int i1), .val (.int (2 : Int32)), .unset, .unset, .unset] [(.ref b1)])) _
    refine XS.dup X3.here hx rfl (hb hby at_47) rfl rfl ?_
    show Steps p.tables e below (T3.setTop (mkF m 48 #[.val (.int i0), .val (.int i1), .val (.int (2 : Int32)), .unset, .unset, .unset] [(.ref b1), (.ref b1)])) _
    refine XS.iconst X3.here hx rfl (hb hby at_48) ?_
    show Steps p.tables e below (T3.setTop (mkF m 49 #[.val (.int i0), .val (.int i1), .val (.int (2 : Int32)), .unset, .unset, .unset] [(.int (2 : Int32)), (.ref b1), (.ref b1)])) _
    refine XS.bipush X3.here hx rfl (hb hby at_49) ?_
    show Steps p.tables e below (T3.setTop (mkF m 51 #[.val (.int i0), .val (.int i1), .val (.int (2 : Int32)), .unset, .unset, .unset] [(.int (42 : Int32)), (.int (2 : Int32)), (.ref b1), (.ref b1)])) _
    refine st4 _ ?_
    show Steps p.tables e below (T4.setTop (mkF m 52 #[.val (.int i0), .val (.int i1), .val (.int (2 : Int32)), .unset, .unset, .unset] [(.ref b1)])) _
    refine XS.dup X4.here hx rfl (hb hby at_52) rfl rfl ?_
    show Steps p.tables e below (T4.setTop (mkF m 53 #[.val (.int i0), .val (.int i1), .val (.int (2 : Int32)), .unset, .unset, .unset] [(.ref b1), (.ref b1)])) _
    refine XS.iconst X4.here hx rfl (hb hby at_53) ?_
    show Steps p.tables e below (T4.setTop (mkF m 54 #[.val (.int i0), .val (.int i1), .val (.int (2 : Int32)), .unset, .unset, .unset] [(.int (3 : Int32)), (.ref b1), (.ref b1)])) _
    refine XS.bipush X4.here hx rfl (hb hby at_54) ?_
    show Steps p.tables e below (T4.setTop (mkF m 56 #[.val (.int i0), .val (.int i1), .val (.int (2 : Int32)), .unset, .unset, .unset] [(.int (47 : Int32)), (.int (3 : Int32)), (.ref b1), (.ref b1)])) _
    refine st5 _ ?_
    show Steps p.tables e below (T5.setTop (mkF m 57 #[.val (.int i0), .val (.int i1), .val (.int (2 : Int32)), .unset, .unset, .unset] [(.ref b1)])) _
    refine XS.astore X5.here hx rfl (hb hby at_57) rfl rfl (l' := #[.val (.int i0), .val (.int i1), .val (.int (2 : Int32)), .unset, .val (.ref b1), .unset]) rfl ?_
    show Steps p.tables e below (T5.setTop (mkF m 59 #[.val (.int i0), .val (.int i1), .val (.int (2 : Int32)), .unset, .val (.ref b1), .unset] [])) _
    refine XS.aload X5.here hx rfl (hb hby at_59) rfl rfl ?_
    show Steps p.tables e below (T5.setTop (mkF m 61 #[.val (.int i0), .val (.int i1), .val (.int (2 : Int32)), .unset, .val (.ref b1), .unset] [(.ref b1)])) _
    refine XS.iloadN X5.here hx rfl (hb hby at_61) rfl ?_
    show Steps p.tables e below (T5.setTop (mkF m 62 #[.val (.int i0), .val (.int i1), .val (.int (2 : Int32)), .unset, .val (.ref b1), .unset] [(.int i0), (.ref b1)])) _
    refine XS.iconst X5.here hx rfl (hb hby at_62) ?_
    show Steps p.tables e below (T5.setTop (mkF m 63 #[.val (.int i0), .val (.int i1), .val (.int (2 : Int32)), .unset, .val (.ref b1), .unset] [(.int (3 : Int32)), (.int i0), (.ref b1)])) _
    refine XS.iand X5.here hx rfl (hb hby at_63) rfl ?_
    show Steps p.tables e below (T5.setTop (mkF m 64 #[.val (.int i0), .val (.int i1), .val (.int (2 : Int32)), .unset, .val (.ref b1), .unset] [(.int (i0 &&& (3 : Int32))), (.ref b1)])) _
    rw [hj]
    show Steps p.tables e below (T5.setTop (mkF m 64 #[.val (.int i0), .val (.int i1), .val (.int (2 : Int32)), .unset, .val (.ref b1), .unset] [(.int (1 : Int32)), (.ref b1)])) _
    refine X5.caload hx (j := (1 : Int32)) (v := (.int (45 : Int32))) (by rw [e5]; exact Ar_6.1) (State.isArrayOf_alike hZ.alike Ar_6.2.1) Ar_6.2.2 hin6 hat6 (g := (mkF m 64 #[.val (.int i0), .val (.int i1), .val (.int (2 : Int32)), .unset, .val (.ref b1), .unset] [(.int (1 : Int32)), (.ref b1)])) rfl rfl (hb hby at_64) _ ?_
    show Steps p.tables e below (T5.setTop (mkF m 65 #[.val (.int i0), .val (.int i1), .val (.int (2 : Int32)), .unset, .val (.ref b1), .unset] [(.int (45 : Int32))])) _
    refine XS.istoreN X5.here hx rfl (hb hby at_65) rfl (l' := #[.val (.int i0), .val (.int i1), .val (.int (2 : Int32)), .val (.int (45 : Int32)), .val (.ref b1), .unset]) rfl ?_
    show Steps p.tables e below (T5.setTop (mkF m 66 #[.val (.int i0), .val (.int i1), .val (.int (2 : Int32)), .val (.int (45 : Int32)), .val (.ref b1), .unset] [])) _
    refine XS.iloadN X5.here hx rfl (hb hby at_66) rfl ?_
    show Steps p.tables e below (T5.setTop (mkF m 67 #[.val (.int i0), .val (.int i1), .val (.int (2 : Int32)), .val (.int (45 : Int32)), .val (.ref b1), .unset] [(.int (45 : Int32))])) _
    refine st7 _ ?_
    show Steps p.tables e below (T7.setTop (mkF m 70 #[.val (.int i0), .val (.int i1), .val (.int (2 : Int32)), .val (.int (45 : Int32)), .val (.ref b1), .unset] [(.ref r1)])) _
    refine XS.astore X7.here hx rfl (hb hby at_70) rfl rfl (l' := #[.val (.int i0), .val (.int i1), .val (.int (2 : Int32)), .val (.int (45 : Int32)), .val (.ref r1), .unset]) rfl ?_
    show Steps p.tables e below (T7.setTop (mkF m 72 #[.val (.int i0), .val (.int i1), .val (.int (2 : Int32)), .val (.int (45 : Int32)), .val (.ref r1), .unset] [])) _
    refine XS.iloadN X7.here hx rfl (hb hby at_72) rfl ?_
    show Steps p.tables e below (T7.setTop (mkF m 73 #[.val (.int i0), .val (.int i1), .val (.int (2 : Int32)), .val (.int (45 : Int32)), .val (.ref r1), .unset] [(.int (45 : Int32))])) _
    refine st8 _ ?_
    show Steps p.tables e below (T8.setTop (mkF m 76 #[.val (.int i0), .val (.int i1), .val (.int (2 : Int32)), .val (.int (45 : Int32)), .val (.ref r1), .unset] [(.ref r1)])) _
    refine XS.astore X8.here hx rfl (hb hby at_76) rfl rfl (l' := #[.val (.int i0), .val (.int i1), .val (.int (2 : Int32)), .val (.int (45 : Int32)), .val (.ref r1), .val (.ref r1)]) rfl ?_
    show Steps p.tables e below (T8.setTop (mkF m 78 #[.val (.int i0), .val (.int i1), .val (.int (2 : Int32)), .val (.int (45 : Int32)), .val (.ref r1), .val (.ref r1)] [])) _
    refine XS.aload X8.here hx rfl (hb hby at_78) rfl rfl ?_
    show Steps p.tables e below (T8.setTop (mkF m 80 #[.val (.int i0), .val (.int i1), .val (.int (2 : Int32)), .val (.int (45 : Int32)), .val (.ref r1), .val (.ref r1)] [(.ref r1)])) _
    refine XS.aload X8.here hx rfl (hb hby at_80) rfl rfl ?_
    show Steps p.tables e below (T8.setTop (mkF m 82 #[.val (.int i0), .val (.int i1), .val (.int (2 : Int32)), .val (.int (45 : Int32)), .val (.ref r1), .val (.ref r1)] [(.ref r1), (.ref r1)])) _
    refine Jvm.RoadKit.acmp (g := (mkF m 82 #[.val (.int i0), .val (.int i1), .val (.int (2 : Int32)), .val (.int (45 : Int32)), .val (.ref r1), .val (.ref r1)] [(.ref r1), (.ref r1)])) X8 hx rfl rfl rfl (pc0 := 82) (pc' := 85) (same := true) rfl (hb hby at_82) rfl (decide_eq_true rfl) (by decide) (by decide) ?_
    show Steps p.tables e below (T8.setTop (mkF m 85 #[.val (.int i0), .val (.int i1), .val (.int (2 : Int32)), .val (.int (45 : Int32)), .val (.ref r1), .val (.ref r1)] [])) _
    refine XS.iconst X8.here hx rfl (hb hby at_85) ?_
    show Steps p.tables e below (T8.setTop (mkF m 86 #[.val (.int i0), .val (.int i1), .val (.int (2 : Int32)), .val (.int (45 : Int32)), .val (.ref r1), .val (.ref r1)] [(.int (1 : Int32))])) _
    refine XS.goto X8.here hx rfl (pc0 := 86) (pc' := 90) rfl (hb hby at_86) (by decide) (by decide) ?_
    show Steps p.tables e below (T8.setTop (mkF m 90 #[.val (.int i0), .val (.int i1), .val (.int (2 : Int32)), .val (.int (45 : Int32)), .val (.ref r1), .val (.ref r1)] [(.int (1 : Int32))])) _
    exact retN X8 hx (t := .boolean) Bd.returns (by simp) (hb hby at_90) hr
  · exact ⟨rfl, N8⟩
set_option maxRecDepth 65536 in
set_option maxHeartbeats 40000000 in
theorem own_r1_28 (l : Launch) (Z : State) (a0 : Array Value) (hw : ∀ d ∈ tables_1, d.before a0 Z = true) (ws : List Jvm.Cond) (r0 : Addr) (r1 : Addr) (r2 : Addr) (r3 : Addr) (r4 : Addr) (cl_r4 : Cell) (h0 : Heap) (n0 : Nat) (Z0 : n0 ≤ h0.size) (F : own_W Z h0 r0 r1 r2 r3 r4 cl_r4)   :
    MetFree l (⟨"dragoman/Operator", "bySymbol", "(C)Ldragoman/Operator;"⟩ : MethodName) (head1 (Jvm.Cond.code (⟨"dragoman/Operator", "bySymbol", "(C)Ldragoman/Operator;"⟩ : MethodName) prog_26_method_4_code 5 (some (.object "dragoman/Operator")) :: ws) ({ frames := 0, cells := 0, slots := 0, locals := 0 } : Room)) (fun a U => a = #[(.int (42 : Int32))] ∧ Z.Warmed39 U.vm ∧ U.heap = h0) (fun _ _ _ _ _ => True) (fun _ U o U' => ∃ v L, o = .returned v ∧ own_Q (.ref r2) h0 n0 v U'.heap L ∧ FrameEnd U o U' L ({ frames := 0, cells := 0, slots := 0, locals := 0 } : Room).cells ({ frames := 0, cells := 0, slots := 0, locals := 0 } : Room).slots) := by
  obtain ⟨S_r0, E_r0, S_r1, E_r1, S_r2, E_r2, S_r3, E_r3, S_r4, Ar_r4, Sz_r4, El_r4_0, F_r0_symbol, El_r4_1, F_r1_symbol, El_r4_2, F_r2_symbol, El_r4_3, F_r3_symbol, ne_r0_r1, ne_r0_r2, ne_r0_r3, ne_r1_r2, ne_r1_r3, ne_r2_r3⟩ := id F
  refine MetFree.of_bodySF (plainFor_of_name own_pn_Operator) hisR ?_
  intro p e s m args below meth c s₁ Bd hml0 hP hK
  obtain ⟨rfl, hZ, hh⟩ := hP
  have hx := Bd.exec
  have hby := Bd.bytes
  have hml : c.maxLocals = 5 := hml0
  have hown : s.vm.findClass "dragoman/Operator" = some m.cls := findClass_of_methodNamed Bd.named
  have X0 : Stand p l e ({ frames := 0, cells := 0, slots := 0, locals := 0 } : Room) s m #[(.int (42 : Int32))] below meth c s₁ [] 0 0 := Stand.of_body Bd
  have e0 : s₁.heap = h0 := by rw [← hh, Bd.state]; rfl
  have N0 := Fr.nil n0
  have pre0 : ∀ t, Steps p.tables e below (s₁.setTop (mkF m 0 #[.val (.int (42 : Int32)), .unset, .unset, .unset, .unset] [])) t → Steps p.tables e below (s₁.setTop (entryFrame m #[(.int (42 : Int32))] 5)) t := fun t k => castTop (own_ef1_I m (42 : Int32)) k
  obtain ⟨T1, X1, e1, st1⟩ := getS2 X0 hx hZ hown (host := "") (Or.inl (hw _ (List.mem_of_getElem? (i := 5) rfl))) Via.refl e0 S_r4 (g := (mkF m 0 #[.val (.int (42 : Int32)), .unset, .unset, .unset, .unset] [])) rfl (hb hby own_d1_0)
  obtain ⟨T2, X2, e2, st2⟩ := getF X1 hx hZ hown (host := "") (Or.inl (hw _ (List.mem_of_getElem? (i := 8) rfl))) Via.refl e1 F_r0_symbol (g := (mkF m 21 #[.val (.int (42 : Int32)), .val (.ref r4), .val (.int (4 : Int32)), .val (.int (0 : Int32)), .val (.ref r0)] [(.ref r0)])) rfl rfl (hb hby own_d1_21)
  obtain ⟨T3, X3, e3, st3⟩ := getF X2 hx hZ hown (host := "") (Or.inl (hw _ (List.mem_of_getElem? (i := 8) rfl))) Via.refl e2 F_r1_symbol (g := (mkF m 21 #[.val (.int (42 : Int32)), .val (.ref r4), .val (.int (4 : Int32)), .val (.int (1 : Int32)), .val (.ref r1)] [(.ref r1)])) rfl rfl (hb hby own_d1_21)
  obtain ⟨T4, X4, e4, st4⟩ := getF X3 hx hZ hown (host := "") (Or.inl (hw _ (List.mem_of_getElem? (i := 8) rfl))) Via.refl e3 F_r2_symbol (g := (mkF m 21 #[.val (.int (42 : Int32)), .val (.ref r4), .val (.int (4 : Int32)), .val (.int (2 : Int32)), .val (.ref r2)] [(.ref r2)])) rfl rfl (hb hby own_d1_21)
  obtain ⟨fs, hr, hrun, hended, hW, hsame⟩ := X4.leave (v := some (.ref r2)) (fun h => by rw [Bd.returns] at h; cases h)
  refine ⟨_, _, pre0 _ ?_, hrun, hended, _, _, rfl, ?_, ⟨_, rfl⟩, hW, hsame.mono (by decide) (by decide)⟩
  · show Steps p.tables e below (s₁.setTop (mkF m 0 #[.val (.int (42 : Int32)), .unset, .unset, .unset, .unset] [])) _
    refine st1 _ ?_
    show Steps p.tables e below (T1.setTop (mkF m 3 #[.val (.int (42 : Int32)), .unset, .unset, .unset, .unset] [(.ref r4)])) _
    refine XS.astoreN X1.here hx rfl (hb hby own_d1_3) rfl rfl (l' := #[.val (.int (42 : Int32)), .val (.ref r4), .unset, .unset, .unset]) rfl ?_
    show Steps p.tables e below (T1.setTop (mkF m 4 #[.val (.int (42 : Int32)), .val (.ref r4), .unset, .unset, .unset] [])) _
    refine XS.aloadN X1.here hx rfl (hb hby own_d1_4) rfl rfl ?_
    show Steps p.tables e below (T1.setTop (mkF m 5 #[.val (.int (42 : Int32)), .val (.ref r4), .unset, .unset, .unset] [(.ref r4)])) _
    refine X1.arraylength hx (by rw [e1]; exact Ar_r4.1) (State.isArrayOf_alike hZ.alike Ar_r4.2.1) (g := (mkF m 5 #[.val (.int (42 : Int32)), .val (.ref r4), .unset, .unset, .unset] [(.ref r4)])) rfl rfl (hb hby own_d1_5) _ ?_
    rw [len_of Sz_r4 (by decide)]
    show Steps p.tables e below (T1.setTop (mkF m 6 #[.val (.int (42 : Int32)), .val (.ref r4), .unset, .unset, .unset] [(.int (4 : Int32))])) _
    refine XS.istoreN X1.here hx rfl (hb hby own_d1_6) rfl (l' := #[.val (.int (42 : Int32)), .val (.ref r4), .val (.int (4 : Int32)), .unset, .unset]) rfl ?_
    show Steps p.tables e below (T1.setTop (mkF m 7 #[.val (.int (42 : Int32)), .val (.ref r4), .val (.int (4 : Int32)), .unset, .unset] [])) _
    refine XS.iconst X1.here hx rfl (hb hby own_d1_7) ?_
    show Steps p.tables e below (T1.setTop (mkF m 8 #[.val (.int (42 : Int32)), .val (.ref r4), .val (.int (4 : Int32)), .unset, .unset] [(.int (0 : Int32))])) _
    refine XS.istoreN X1.here hx rfl (hb hby own_d1_8) rfl (l' := #[.val (.int (42 : Int32)), .val (.ref r4), .val (.int (4 : Int32)), .val (.int (0 : Int32)), .unset]) rfl ?_
    show Steps p.tables e below (T1.setTop (mkF m 9 #[.val (.int (42 : Int32)), .val (.ref r4), .val (.int (4 : Int32)), .val (.int (0 : Int32)), .unset] [])) _
    refine XS.iloadN X1.here hx rfl (hb hby own_d1_9) rfl ?_
    show Steps p.tables e below (T1.setTop (mkF m 10 #[.val (.int (42 : Int32)), .val (.ref r4), .val (.int (4 : Int32)), .val (.int (0 : Int32)), .unset] [(.int (0 : Int32))])) _
    refine XS.iloadN X1.here hx rfl (hb hby own_d1_10) rfl ?_
    show Steps p.tables e below (T1.setTop (mkF m 11 #[.val (.int (42 : Int32)), .val (.ref r4), .val (.int (4 : Int32)), .val (.int (0 : Int32)), .unset] [(.int (4 : Int32)), (.int (0 : Int32))])) _
    refine XS.icmpNo X1.here hx rfl (hb hby own_d1_11) rfl (tlt (by decide : (0 : Int32) < (4 : Int32))).2.1 ?_
    show Steps p.tables e below (T1.setTop (mkF m 14 #[.val (.int (42 : Int32)), .val (.ref r4), .val (.int (4 : Int32)), .val (.int (0 : Int32)), .unset] [])) _
    refine XS.aloadN X1.here hx rfl (hb hby own_d1_14) rfl rfl ?_
    show Steps p.tables e below (T1.setTop (mkF m 15 #[.val (.int (42 : Int32)), .val (.ref r4), .val (.int (4 : Int32)), .val (.int (0 : Int32)), .unset] [(.ref r4)])) _
    refine XS.iloadN X1.here hx rfl (hb hby own_d1_15) rfl ?_
    show Steps p.tables e below (T1.setTop (mkF m 16 #[.val (.int (42 : Int32)), .val (.ref r4), .val (.int (4 : Int32)), .val (.int (0 : Int32)), .unset] [(.int (0 : Int32)), (.ref r4)])) _
    refine X1.aaload hx (j := (0 : Int32)) (v := (.ref r0)) (by rw [e1]; exact Ar_r4.1) (State.isArrayOf_alike hZ.alike Ar_r4.2.1) rfl Ar_r4.2.2 (inb_of Sz_r4 ⟨by decide, by decide⟩) El_r4_0 (g := (mkF m 16 #[.val (.int (42 : Int32)), .val (.ref r4), .val (.int (4 : Int32)), .val (.int (0 : Int32)), .unset] [(.int (0 : Int32)), (.ref r4)])) rfl rfl (hb hby own_d1_16) _ ?_
    show Steps p.tables e below (T1.setTop (mkF m 17 #[.val (.int (42 : Int32)), .val (.ref r4), .val (.int (4 : Int32)), .val (.int (0 : Int32)), .unset] [(.ref r0)])) _
    refine XS.astore X1.here hx rfl (hb hby own_d1_17) rfl rfl (l' := #[.val (.int (42 : Int32)), .val (.ref r4), .val (.int (4 : Int32)), .val (.int (0 : Int32)), .val (.ref r0)]) rfl ?_
    show Steps p.tables e below (T1.setTop (mkF m 19 #[.val (.int (42 : Int32)), .val (.ref r4), .val (.int (4 : Int32)), .val (.int (0 : Int32)), .val (.ref r0)] [])) _
    refine XS.aload X1.here hx rfl (hb hby own_d1_19) rfl rfl ?_
    show Steps p.tables e below (T1.setTop (mkF m 21 #[.val (.int (42 : Int32)), .val (.ref r4), .val (.int (4 : Int32)), .val (.int (0 : Int32)), .val (.ref r0)] [(.ref r0)])) _
    refine st2 _ ?_
    show Steps p.tables e below (T2.setTop (mkF m 24 #[.val (.int (42 : Int32)), .val (.ref r4), .val (.int (4 : Int32)), .val (.int (0 : Int32)), .val (.ref r0)] [(.int (43 : Int32))])) _
    refine XS.iloadN X2.here hx rfl (hb hby own_d1_24) rfl ?_
    show Steps p.tables e below (T2.setTop (mkF m 25 #[.val (.int (42 : Int32)), .val (.ref r4), .val (.int (4 : Int32)), .val (.int (0 : Int32)), .val (.ref r0)] [(.int (42 : Int32)), (.int (43 : Int32))])) _
    refine XS.icmpYes X2.here hx rfl (pc0 := 25) (pc' := 31) rfl (hb hby own_d1_25) rfl (feq (by decide : ¬ ((43 : Int32) = (42 : Int32)))).2 (by decide) (by decide) ?_
    show Steps p.tables e below (T2.setTop (mkF m 31 #[.val (.int (42 : Int32)), .val (.ref r4), .val (.int (4 : Int32)), .val (.int (0 : Int32)), .val (.ref r0)] [])) _
    refine XS.iinc X2.here hx rfl (hb hby own_d1_31) rfl (l' := #[.val (.int (42 : Int32)), .val (.ref r4), .val (.int (4 : Int32)), .val (.int ((0 : Int32) + (1 : Int32))), .val (.ref r0)]) rfl ?_
    show Steps p.tables e below (T2.setTop (mkF m 34 #[.val (.int (42 : Int32)), .val (.ref r4), .val (.int (4 : Int32)), .val (.int ((0 : Int32) + (1 : Int32))), .val (.ref r0)] [])) _
    rw [show ((0 : Int32) + (1 : Int32)) = (1 : Int32) from by decide]
    show Steps p.tables e below (T2.setTop (mkF m 34 #[.val (.int (42 : Int32)), .val (.ref r4), .val (.int (4 : Int32)), .val (.int (1 : Int32)), .val (.ref r0)] [])) _
    refine XS.goto X2.here hx rfl (pc0 := 34) (pc' := 9) rfl (hb hby own_d1_34) (by decide) (by decide) ?_
    show Steps p.tables e below (T2.setTop (mkF m 9 #[.val (.int (42 : Int32)), .val (.ref r4), .val (.int (4 : Int32)), .val (.int (1 : Int32)), .val (.ref r0)] [])) _
    refine XS.iloadN X2.here hx rfl (hb hby own_d1_9) rfl ?_
    show Steps p.tables e below (T2.setTop (mkF m 10 #[.val (.int (42 : Int32)), .val (.ref r4), .val (.int (4 : Int32)), .val (.int (1 : Int32)), .val (.ref r0)] [(.int (1 : Int32))])) _
    refine XS.iloadN X2.here hx rfl (hb hby own_d1_10) rfl ?_
    show Steps p.tables e below (T2.setTop (mkF m 11 #[.val (.int (42 : Int32)), .val (.ref r4), .val (.int (4 : Int32)), .val (.int (1 : Int32)), .val (.ref r0)] [(.int (4 : Int32)), (.int (1 : Int32))])) _
    refine XS.icmpNo X2.here hx rfl (hb hby own_d1_11) rfl (tlt (by decide : (1 : Int32) < (4 : Int32))).2.1 ?_
    show Steps p.tables e below (T2.setTop (mkF m 14 #[.val (.int (42 : Int32)), .val (.ref r4), .val (.int (4 : Int32)), .val (.int (1 : Int32)), .val (.ref r0)] [])) _
    refine XS.aloadN X2.here hx rfl (hb hby own_d1_14) rfl rfl ?_
    show Steps p.tables e below (T2.setTop (mkF m 15 #[.val (.int (42 : Int32)), .val (.ref r4), .val (.int (4 : Int32)), .val (.int (1 : Int32)), .val (.ref r0)] [(.ref r4)])) _
    refine XS.iloadN X2.here hx rfl (hb hby own_d1_15) rfl ?_
    show Steps p.tables e below (T2.setTop (mkF m 16 #[.val (.int (42 : Int32)), .val (.ref r4), .val (.int (4 : Int32)), .val (.int (1 : Int32)), .val (.ref r0)] [(.int (1 : Int32)), (.ref r4)])) _
    refine X2.aaload hx (j := (1 : Int32)) (v := (.ref r1)) (by rw [e2]; exact Ar_r4.1) (State.isArrayOf_alike hZ.alike Ar_r4.2.1) rfl Ar_r4.2.2 (inb_of Sz_r4 ⟨by decide, by decide⟩) El_r4_1 (g := (mkF m 16 #[.val (.int (42 : Int32)), .val (.ref r4), .val (.int (4 : Int32)), .val (.int (1 : Int32)), .val (.ref r0)] [(.int (1 : Int32)), (.ref r4)])) rfl rfl (hb hby own_d1_16) _ ?_
    show Steps p.tables e below (T2.setTop (mkF m 17 #[.val (.int (42 : Int32)), .val (.ref r4), .val (.int (4 : Int32)), .val (.int (1 : Int32)), .val (.ref r0)] [(.ref r1)])) _
    refine XS.astore X2.here hx rfl (hb hby own_d1_17) rfl rfl (l' := #[.val (.int (42 : Int32)), .val (.ref r4), .val (.int (4 : Int32)), .val (.int (1 : Int32)), .val (.ref r1)]) rfl ?_
    show Steps p.tables e below (T2.setTop (mkF m 19 #[.val (.int (42 : Int32)), .val (.ref r4), .val (.int (4 : Int32)), .val (.int (1 : Int32)), .val (.ref r1)] [])) _
    refine XS.aload X2.here hx rfl (hb hby own_d1_19) rfl rfl ?_
    show Steps p.tables e below (T2.setTop (mkF m 21 #[.val (.int (42 : Int32)), .val (.ref r4), .val (.int (4 : Int32)), .val (.int (1 : Int32)), .val (.ref r1)] [(.ref r1)])) _
    refine st3 _ ?_
    show Steps p.tables e below (T3.setTop (mkF m 24 #[.val (.int (42 : Int32)), .val (.ref r4), .val (.int (4 : Int32)), .val (.int (1 : Int32)), .val (.ref r1)] [(.int (45 : Int32))])) _
    refine XS.iloadN X3.here hx rfl (hb hby own_d1_24) rfl ?_
    show Steps p.tables e below (T3.setTop (mkF m 25 #[.val (.int (42 : Int32)), .val (.ref r4), .val (.int (4 : Int32)), .val (.int (1 : Int32)), .val (.ref r1)] [(.int (42 : Int32)), (.int (45 : Int32))])) _
    refine XS.icmpYes X3.here hx rfl (pc0 := 25) (pc' := 31) rfl (hb hby own_d1_25) rfl (feq (by decide : ¬ ((45 : Int32) = (42 : Int32)))).2 (by decide) (by decide) ?_
    show Steps p.tables e below (T3.setTop (mkF m 31 #[.val (.int (42 : Int32)), .val (.ref r4), .val (.int (4 : Int32)), .val (.int (1 : Int32)), .val (.ref r1)] [])) _
    refine XS.iinc X3.here hx rfl (hb hby own_d1_31) rfl (l' := #[.val (.int (42 : Int32)), .val (.ref r4), .val (.int (4 : Int32)), .val (.int ((1 : Int32) + (1 : Int32))), .val (.ref r1)]) rfl ?_
    show Steps p.tables e below (T3.setTop (mkF m 34 #[.val (.int (42 : Int32)), .val (.ref r4), .val (.int (4 : Int32)), .val (.int ((1 : Int32) + (1 : Int32))), .val (.ref r1)] [])) _
    rw [show ((1 : Int32) + (1 : Int32)) = (2 : Int32) from by decide]
    show Steps p.tables e below (T3.setTop (mkF m 34 #[.val (.int (42 : Int32)), .val (.ref r4), .val (.int (4 : Int32)), .val (.int (2 : Int32)), .val (.ref r1)] [])) _
    refine XS.goto X3.here hx rfl (pc0 := 34) (pc' := 9) rfl (hb hby own_d1_34) (by decide) (by decide) ?_
    show Steps p.tables e below (T3.setTop (mkF m 9 #[.val (.int (42 : Int32)), .val (.ref r4), .val (.int (4 : Int32)), .val (.int (2 : Int32)), .val (.ref r1)] [])) _
    refine XS.iloadN X3.here hx rfl (hb hby own_d1_9) rfl ?_
    show Steps p.tables e below (T3.setTop (mkF m 10 #[.val (.int (42 : Int32)), .val (.ref r4), .val (.int (4 : Int32)), .val (.int (2 : Int32)), .val (.ref r1)] [(.int (2 : Int32))])) _
    refine XS.iloadN X3.here hx rfl (hb hby own_d1_10) rfl ?_
    show Steps p.tables e below (T3.setTop (mkF m 11 #[.val (.int (42 : Int32)), .val (.ref r4), .val (.int (4 : Int32)), .val (.int (2 : Int32)), .val (.ref r1)] [(.int (4 : Int32)), (.int (2 : Int32))])) _
    refine XS.icmpNo X3.here hx rfl (hb hby own_d1_11) rfl (tlt (by decide : (2 : Int32) < (4 : Int32))).2.1 ?_
    show Steps p.tables e below (T3.setTop (mkF m 14 #[.val (.int (42 : Int32)), .val (.ref r4), .val (.int (4 : Int32)), .val (.int (2 : Int32)), .val (.ref r1)] [])) _
    refine XS.aloadN X3.here hx rfl (hb hby own_d1_14) rfl rfl ?_
    show Steps p.tables e below (T3.setTop (mkF m 15 #[.val (.int (42 : Int32)), .val (.ref r4), .val (.int (4 : Int32)), .val (.int (2 : Int32)), .val (.ref r1)] [(.ref r4)])) _
    refine XS.iloadN X3.here hx rfl (hb hby own_d1_15) rfl ?_
    show Steps p.tables e below (T3.setTop (mkF m 16 #[.val (.int (42 : Int32)), .val (.ref r4), .val (.int (4 : Int32)), .val (.int (2 : Int32)), .val (.ref r1)] [(.int (2 : Int32)), (.ref r4)])) _
    refine X3.aaload hx (j := (2 : Int32)) (v := (.ref r2)) (by rw [e3]; exact Ar_r4.1) (State.isArrayOf_alike hZ.alike Ar_r4.2.1) rfl Ar_r4.2.2 (inb_of Sz_r4 ⟨by decide, by decide⟩) El_r4_2 (g := (mkF m 16 #[.val (.int (42 : Int32)), .val (.ref r4), .val (.int (4 : Int32)), .val (.int (2 : Int32)), .val (.ref r1)] [(.int (2 : Int32)), (.ref r4)])) rfl rfl (hb hby own_d1_16) _ ?_
    show Steps p.tables e below (T3.setTop (mkF m 17 #[.val (.int (42 : Int32)), .val (.ref r4), .val (.int (4 : Int32)), .val (.int (2 : Int32)), .val (.ref r1)] [(.ref r2)])) _
    refine XS.astore X3.here hx rfl (hb hby own_d1_17) rfl rfl (l' := #[.val (.int (42 : Int32)), .val (.ref r4), .val (.int (4 : Int32)), .val (.int (2 : Int32)), .val (.ref r2)]) rfl ?_
    show Steps p.tables e below (T3.setTop (mkF m 19 #[.val (.int (42 : Int32)), .val (.ref r4), .val (.int (4 : Int32)), .val (.int (2 : Int32)), .val (.ref r2)] [])) _
    refine XS.aload X3.here hx rfl (hb hby own_d1_19) rfl rfl ?_
    show Steps p.tables e below (T3.setTop (mkF m 21 #[.val (.int (42 : Int32)), .val (.ref r4), .val (.int (4 : Int32)), .val (.int (2 : Int32)), .val (.ref r2)] [(.ref r2)])) _
    refine st4 _ ?_
    show Steps p.tables e below (T4.setTop (mkF m 24 #[.val (.int (42 : Int32)), .val (.ref r4), .val (.int (4 : Int32)), .val (.int (2 : Int32)), .val (.ref r2)] [(.int (42 : Int32))])) _
    refine XS.iloadN X4.here hx rfl (hb hby own_d1_24) rfl ?_
    show Steps p.tables e below (T4.setTop (mkF m 25 #[.val (.int (42 : Int32)), .val (.ref r4), .val (.int (4 : Int32)), .val (.int (2 : Int32)), .val (.ref r2)] [(.int (42 : Int32)), (.int (42 : Int32))])) _
    refine XS.icmpNo X4.here hx rfl (hb hby own_d1_25) rfl (teq (by decide : (42 : Int32) = (42 : Int32))).2 ?_
    show Steps p.tables e below (T4.setTop (mkF m 28 #[.val (.int (42 : Int32)), .val (.ref r4), .val (.int (4 : Int32)), .val (.int (2 : Int32)), .val (.ref r2)] [])) _
    refine XS.aload X4.here hx rfl (hb hby own_d1_28) rfl rfl ?_
    show Steps p.tables e below (T4.setTop (mkF m 30 #[.val (.int (42 : Int32)), .val (.ref r4), .val (.int (4 : Int32)), .val (.int (2 : Int32)), .val (.ref r2)] [(.ref r2)])) _
    jvm_step X4.here [X4.here.top, hx, (hb hby own_d1_30), X4.method', Bd.returns, Value.isRef, FieldType.isReference]
    first | (intro acts; rw [hr _ acts rfl rfl rfl]) | rw [hr _ _ rfl rfl rfl]
    exact Steps.refl _
  · exact ⟨rfl, N0, e4⟩
set_option maxRecDepth 65536 in
set_option maxHeartbeats 40000000 in
theorem own_r2_29 (l : Launch) (Z : State) (a0 : Array Value) (hw : ∀ d ∈ tables_1, d.before a0 Z = true) (ws : List Jvm.Cond) (r0 : Addr) (r1 : Addr) (r2 : Addr) (r3 : Addr) (r4 : Addr) (cl_r4 : Cell) (h0 : Heap) (n0 : Nat) (Z0 : n0 ≤ h0.size) (F : own_W Z h0 r0 r1 r2 r3 r4 cl_r4)   :
    MetFree l (⟨"dragoman/OperatorBySymbolPinLaw", "expected", "(C)Ldragoman/Operator;"⟩ : MethodName) (head1 (Jvm.Cond.code (⟨"dragoman/OperatorBySymbolPinLaw", "expected", "(C)Ldragoman/Operator;"⟩ : MethodName) method_3_code 1 (some (.object "dragoman/Operator")) :: ws) ({ frames := 0, cells := 0, slots := 0, locals := 0 } : Room)) (fun a U => a = #[(.int (42 : Int32))] ∧ Z.Warmed39 U.vm ∧ U.heap = h0) (fun _ _ _ _ _ => True) (fun _ U o U' => ∃ v L, o = .returned v ∧ own_Q (.ref r2) h0 n0 v U'.heap L ∧ FrameEnd U o U' L ({ frames := 0, cells := 0, slots := 0, locals := 0 } : Room).cells ({ frames := 0, cells := 0, slots := 0, locals := 0 } : Room).slots) := by
  obtain ⟨S_r0, E_r0, S_r1, E_r1, S_r2, E_r2, S_r3, E_r3, S_r4, Ar_r4, Sz_r4, El_r4_0, F_r0_symbol, El_r4_1, F_r1_symbol, El_r4_2, F_r2_symbol, El_r4_3, F_r3_symbol, ne_r0_r1, ne_r0_r2, ne_r0_r3, ne_r1_r2, ne_r1_r3, ne_r2_r3⟩ := id F
  refine MetFree.of_bodySF (plainFor_of_name own_pn_OperatorBySymbolPinLaw) hisR ?_
  intro p e s m args below meth c s₁ Bd hml0 hP hK
  obtain ⟨rfl, hZ, hh⟩ := hP
  have hx := Bd.exec
  have hby := Bd.bytes
  have hml : c.maxLocals = 1 := hml0
  have hown : s.vm.findClass "dragoman/OperatorBySymbolPinLaw" = some m.cls := findClass_of_methodNamed Bd.named
  have X0 : Stand p l e ({ frames := 0, cells := 0, slots := 0, locals := 0 } : Room) s m #[(.int (42 : Int32))] below meth c s₁ [] 0 0 := Stand.of_body Bd
  have e0 : s₁.heap = h0 := by rw [← hh, Bd.state]; rfl
  have N0 := Fr.nil n0
  have pre0 : ∀ t, Steps p.tables e below (s₁.setTop (mkF m 0 #[.val (.int (42 : Int32))] [])) t → Steps p.tables e below (s₁.setTop (entryFrame m #[(.int (42 : Int32))] 1)) t := fun t k => castTop (own_ef2_I m (42 : Int32)) k
  obtain ⟨T1, X1, e1, st1⟩ := getS2 X0 hx hZ hown (host := "") (Or.inl (hw _ (List.mem_of_getElem? (i := 21) rfl))) Via.refl e0 S_r2 (g := (mkF m 26 #[.val (.int (42 : Int32))] [])) rfl (hb hby own_d2_26)
  obtain ⟨fs, hr, hrun, hended, hW, hsame⟩ := X1.leave (v := some (.ref r2)) (fun h => by rw [Bd.returns] at h; cases h)
  refine ⟨_, _, pre0 _ ?_, hrun, hended, _, _, rfl, ?_, ⟨_, rfl⟩, hW, hsame.mono (by decide) (by decide)⟩
  · show Steps p.tables e below (s₁.setTop (mkF m 0 #[.val (.int (42 : Int32))] [])) _
    refine XS.iloadN X0.here hx rfl (hb hby own_d2_0) rfl ?_
    show Steps p.tables e below (s₁.setTop (mkF m 1 #[.val (.int (42 : Int32))] [(.int (42 : Int32))])) _
    refine XS.bipush X0.here hx rfl (hb hby own_d2_1) ?_
    show Steps p.tables e below (s₁.setTop (mkF m 3 #[.val (.int (42 : Int32))] [(.int (43 : Int32)), (.int (42 : Int32))])) _
    refine XS.icmpYes X0.here hx rfl (pc0 := 3) (pc' := 10) rfl (hb hby own_d2_3) rfl (feq (by decide : ¬ ((42 : Int32) = (43 : Int32)))).2 (by decide) (by decide) ?_
    show Steps p.tables e below (s₁.setTop (mkF m 10 #[.val (.int (42 : Int32))] [])) _
    refine XS.iloadN X0.here hx rfl (hb hby own_d2_10) rfl ?_
    show Steps p.tables e below (s₁.setTop (mkF m 11 #[.val (.int (42 : Int32))] [(.int (42 : Int32))])) _
    refine XS.bipush X0.here hx rfl (hb hby own_d2_11) ?_
    show Steps p.tables e below (s₁.setTop (mkF m 13 #[.val (.int (42 : Int32))] [(.int (45 : Int32)), (.int (42 : Int32))])) _
    refine XS.icmpYes X0.here hx rfl (pc0 := 13) (pc' := 20) rfl (hb hby own_d2_13) rfl (feq (by decide : ¬ ((42 : Int32) = (45 : Int32)))).2 (by decide) (by decide) ?_
    show Steps p.tables e below (s₁.setTop (mkF m 20 #[.val (.int (42 : Int32))] [])) _
    refine XS.iloadN X0.here hx rfl (hb hby own_d2_20) rfl ?_
    show Steps p.tables e below (s₁.setTop (mkF m 21 #[.val (.int (42 : Int32))] [(.int (42 : Int32))])) _
    refine XS.bipush X0.here hx rfl (hb hby own_d2_21) ?_
    show Steps p.tables e below (s₁.setTop (mkF m 23 #[.val (.int (42 : Int32))] [(.int (42 : Int32)), (.int (42 : Int32))])) _
    refine XS.icmpNo X0.here hx rfl (hb hby own_d2_23) rfl (teq (by decide : (42 : Int32) = (42 : Int32))).2 ?_
    show Steps p.tables e below (s₁.setTop (mkF m 26 #[.val (.int (42 : Int32))] [])) _
    refine st1 _ ?_
    show Steps p.tables e below (T1.setTop (mkF m 29 #[.val (.int (42 : Int32))] [(.ref r2)])) _
    jvm_step X1.here [X1.here.top, hx, (hb hby own_d2_29), X1.method', Bd.returns, Value.isRef, FieldType.isReference]
    first | (intro acts; rw [hr _ acts rfl rfl rfl]) | rw [hr _ _ rfl rfl rfl]
    exact Steps.refl _
  · exact ⟨rfl, N0, e1⟩
set_option maxRecDepth 65536 in
set_option maxHeartbeats 40000000 in
theorem own_r0_m2j2 (l : Launch) (Z : State) (a0 : Array Value) (hw : ∀ d ∈ tables_1, d.before a0 Z = true) (ws : List Jvm.Cond) (r0 : Addr) (r1 : Addr) (r2 : Addr) (r3 : Addr) (r4 : Addr) (cl_r4 : Cell) (h0 : Heap) (n0 : Nat) (Z0 : n0 ≤ h0.size) (F : own_W Z h0 r0 r1 r2 r3 r4 cl_r4) (i0 : Int32) (i1 : Int32) (hm : (i1 &&& (3 : Int32)) = (2 : Int32)) (hj : (i0 &&& (3 : Int32)) = (2 : Int32)) :
    MetFree l x (head1 (Jvm.Cond.code x code maxLocals ret :: ws) room_1) (fun a U => a = #[(.int i0), (.int i1)] ∧ Z.Warmed39 U.vm ∧ U.heap = h0) (fun _ _ _ _ _ => True) (fun _ U o U' => ∃ v L, o = .returned v ∧ own_Q0 (.int (1 : Int32)) n0 v U'.heap L ∧ FrameEnd U o U' L room_1.cells room_1.slots) := by
  obtain ⟨S_r0, E_r0, S_r1, E_r1, S_r2, E_r2, S_r3, E_r3, S_r4, Ar_r4, Sz_r4, El_r4_0, F_r0_symbol, El_r4_1, F_r1_symbol, El_r4_2, F_r2_symbol, El_r4_3, F_r3_symbol, ne_r0_r1, ne_r0_r2, ne_r0_r3, ne_r1_r2, ne_r1_r3, ne_r2_r3⟩ := id F
  refine MetFree.of_bodySF (plainFor_of_name own_pn_OperatorBySymbolPinLaw) hisR ?_
  intro p e s m args below meth c s₁ Bd hml0 hP hK
  obtain ⟨rfl, hZ, hh⟩ := hP
  have hx := Bd.exec
  have hby := Bd.bytes
  have hml : c.maxLocals = 6 := hml0
  have hown : s.vm.findClass "dragoman/OperatorBySymbolPinLaw" = some m.cls := findClass_of_methodNamed Bd.named
  have X0 : Stand p l e room_1 s m #[(.int i0), (.int i1)] below meth c s₁ [] 0 0 := Stand.of_body Bd
  have e0 : s₁.heap = h0 := by rw [← hh, Bd.state]; rfl
  have N0 := Fr.nil n0
  have pre0 : ∀ t, Steps p.tables e below (s₁.setTop (mkF m 0 #[.val (.int i0), .val (.int i1), .unset, .unset, .unset, .unset] [])) t → Steps p.tables e below (s₁.setTop (entryFrame m #[(.int i0), (.int i1)] maxLocals)) t := fun t k => castTop (own_ef0_II m i0 i1) k
  obtain ⟨T1, h1, k1, X1, e1, E1, A1, st1⟩ := newP X0 hx hZ (hw _ (List.mem_of_getElem? (i := 0) rfl)) e0 (g := (mkF m 35 #[.val (.int i0), .val (.int i1), .val (.int (2 : Int32)), .unset, .unset, .unset] [(.int (4 : Int32))])) rfl (hb hby at_35) rfl (by decide) (cap := 4) (by decide) (by decide) (by decide) (by decide)
  obtain ⟨b1, g1⟩ : ∃ z, z = h0.size := ⟨_, rfl⟩
  rw [← g1] at A1 st1
  have V_1 : Arv Z h1 b1 k1 .char (4 : Int32) [(.int (0 : Int32)), (.int (0 : Int32)), (.int (0 : Int32)), (.int (0 : Int32))] (.int (0 : Int32)) := (Arv.new A1 (by decide)).pad (pad_rep [] (.int (0 : Int32)) 4)
  have g_b1 : n0 ≤ b1 := Nat.le_trans Z0 (Nat.le_of_eq g1.symm)
  have sz_b1 : h0.size ≤ b1 := Nat.le_trans (Keep.refl h0 []).1 (Nat.le_of_eq g1.symm)
  have K1 : Keep h0 h1 [] := (Keep.refl h0 []).ext E1
  have F1 : own_W Z h1 r0 r1 r2 r3 r4 cl_r4 := own_W_ext ⟨K1.1, fun a c q => K1.2.1 a c q (by simp)⟩ F
  obtain ⟨cl_2, Ar_2, q_2, S_2, N_2, H_2, G_2⟩ := V_1
  obtain ⟨T2, h2, X2, e2, W2, st2⟩ := stC X1 hx hZ e1 Ar_2 (j := (0 : Int32)) (inb_of S_2 ⟨by decide, by decide⟩) (g := (mkF m 41 #[.val (.int i0), .val (.int i1), .val (.int (2 : Int32)), .unset, .unset, .unset] [(.int (43 : Int32)), (.int (0 : Int32)), (.ref b1), (.ref b1)])) rfl rfl (hb hby at_41)
  have V_2 := Arv.set Ar_2 q_2 S_2 N_2 H_2 G_2 (fits_nar_char _) W2 0 rfl (Nat.le_of_ble_eq_true rfl)
  have K2 : Keep h0 h2 [] := K1.wr W2 (Or.inr sz_b1)
  have N2 := Fr.snoc X2 N0 g_b1
  have F2 : own_W Z h2 r0 r1 r2 r3 r4 cl_r4 := own_W_ext ⟨K2.1, fun a c q => K2.2.1 a c q (by simp)⟩ F
  obtain ⟨cl_3, Ar_3, q_3, S_3, N_3, H_3, G_3⟩ := V_2
  obtain ⟨T3, h3, X3, e3, W3, st3⟩ := stC X2 hx hZ e2 Ar_3 (j := (1 : Int32)) (inb_of S_3 ⟨by decide, by decide⟩) (g := (mkF m 46 #[.val (.int i0), .val (.int i1), .val (.int (2 : Int32)), .unset, .unset, .unset] [(.int (45 : Int32)), (.int (1 : Int32)), (.ref b1), (.ref b1)])) rfl rfl (hb hby at_46)
  have V_3 := Arv.set Ar_3 q_3 S_3 N_3 H_3 G_3 (fits_nar_char _) W3 1 rfl (Nat.le_of_ble_eq_true rfl)
  have K3 : Keep h0 h3 [] := K2.wr W3 (Or.inr sz_b1)
  have N3 := Fr.snoc X3 N2 g_b1
  have F3 : own_W Z h3 r0 r1 r2 r3 r4 cl_r4 := own_W_ext ⟨K3.1, fun a c q => K3.2.1 a c q (by simp)⟩ F
  obtain ⟨cl_4, Ar_4, q_4, S_4, N_4, H_4, G_4⟩ := V_3
  obtain ⟨T4, h4, X4, e4, W4, st4⟩ := stC X3 hx hZ e3 Ar_4 (j := (2 : Int32)) (inb_of S_4 ⟨by decide, by decide⟩) (g := (mkF m 51 #[.val (.int i0), .val (.int i1), .val (.int (2 : Int32)), .unset, .unset, .unset] [(.int (42 : Int32)), (.int (2 : Int32)), (.ref b1), (.ref b1)])) rfl rfl (hb hby at_51)
  have V_4 := Arv.set Ar_4 q_4 S_4 N_4 H_4 G_4 (fits_nar_char _) W4 2 rfl (Nat.le_of_ble_eq_true rfl)
  have K4 : Keep h0 h4 [] := K3.wr W4 (Or.inr sz_b1)
  have N4 := Fr.snoc X4 N3 g_b1
  have F4 : own_W Z h4 r0 r1 r2 r3 r4 cl_r4 := own_W_ext ⟨K4.1, fun a c q => K4.2.1 a c q (by simp)⟩ F
  obtain ⟨cl_5, Ar_5, q_5, S_5, N_5, H_5, G_5⟩ := V_4
  obtain ⟨T5, h5, X5, e5, W5, st5⟩ := stC X4 hx hZ e4 Ar_5 (j := (3 : Int32)) (inb_of S_5 ⟨by decide, by decide⟩) (g := (mkF m 56 #[.val (.int i0), .val (.int i1), .val (.int (2 : Int32)), .unset, .unset, .unset] [(.int (47 : Int32)), (.int (3 : Int32)), (.ref b1), (.ref b1)])) rfl rfl (hb hby at_56)
  have V_5 := Arv.set Ar_5 q_5 S_5 N_5 H_5 G_5 (fits_nar_char _) W5 3 rfl (Nat.le_of_ble_eq_true rfl)
  have K5 : Keep h0 h5 [] := K4.wr W5 (Or.inr sz_b1)
  have N5 := Fr.snoc X5 N4 g_b1
  have F5 : own_W Z h5 r0 r1 r2 r3 r4 cl_r4 := own_W_ext ⟨K5.1, fun a c q => K5.2.1 a c q (by simp)⟩ F
  obtain ⟨cl_6, Ar_6, q_6, S_6, N_6, H_6, G_6⟩ := id V_5
  have hin6 : ¬ ((2 : Int32) < 0 ∨ cl_6.slots.size ≤ ((2 : Int32)).toNatClampNeg) := inb_of S_6 ⟨by decide, by decide⟩
  have hat6 : cl_6.slots[((2 : Int32)).toNatClampNeg]? = some (.int (42 : Int32)) := Has.at H_6 hin6 rfl
  obtain ⟨_, _, ⟨T7, L7, k7, n7⟩, -, X7, ⟨Lc7, hQ7, l7, y7, z7⟩, st7⟩ := Jvm.LawKit.callS X5 hx (y := (⟨"dragoman/Operator", "bySymbol", "(C)Ldragoman/Operator;"⟩ : MethodName)) hown (mvT hZ (hw _ (List.mem_of_getElem? (i := 1) rfl))) (mvT hZ (hw _ (List.mem_of_getElem? (i := 2) rfl))) (mvT hZ (hw _ (List.mem_of_getElem? (i := 3) rfl))) (mvT hZ (hw _ (List.mem_of_getElem? (i := 4) rfl))) (by decide) (backOf (W := 0) (own_r1_28 l Z a0 hw [] r0 r1 r2 r3 r4 cl_r4 h5 n0 (Nat.le_trans Z0 K5.1) F5 ) hZ (hw _ (List.mem_of_getElem? (i := 4) rfl)) (hw _ (List.mem_of_getElem? (i := 3) rfl)) (by decide) (by decide)) (g := (mkF m 67 #[.val (.int i0), .val (.int i1), .val (.int (2 : Int32)), .val (.int (42 : Int32)), .val (.ref b1), .unset] [(.int (42 : Int32))])) rfl (by rw [hml]; rfl) (argsL := [(.int (42 : Int32))]) (rest := []) (lenOf own_pd0 rfl) rfl (by show 2 * 0 + _ ≤ _; exact Nat.le_of_eq rfl) (hb hby at_67) (fun _ _ => ⟨rfl, e5, (by decide : 1 + 0 ≤ _), (by decide : 4 + 0 ≤ _)⟩)
  dsimp only [Pt.U, Pt.locs, Pt.cells, Pt.slots] at X7 l7 y7 z7 st7 hQ7
  subst l7 y7 z7
  obtain ⟨rfl, N7q, e7⟩ := hQ7
  have N7 := Fr.app N5 N7q
  obtain ⟨_, _, ⟨T8, L8, k8, n8⟩, -, X8, ⟨Lc8, hQ8, l8, y8, z8⟩, st8⟩ := Jvm.LawKit.callS X7 hx (y := (⟨"dragoman/OperatorBySymbolPinLaw", "expected", "(C)Ldragoman/Operator;"⟩ : MethodName)) hown (mvT hZ (hw _ (List.mem_of_getElem? (i := 10) rfl))) (mvT hZ (hw _ (List.mem_of_getElem? (i := 11) rfl))) (mvT hZ (hw _ (List.mem_of_getElem? (i := 12) rfl))) (mvT hZ (hw _ (List.mem_of_getElem? (i := 13) rfl))) (by decide) (backOf (W := 0) (own_r2_29 l Z a0 hw [] r0 r1 r2 r3 r4 cl_r4 h5 n0 (Nat.le_trans Z0 K5.1) F5 ) hZ (hw _ (List.mem_of_getElem? (i := 13) rfl)) (hw _ (List.mem_of_getElem? (i := 12) rfl)) (by decide) (by decide)) (g := (mkF m 73 #[.val (.int i0), .val (.int i1), .val (.int (2 : Int32)), .val (.int (42 : Int32)), .val (.ref r2), .unset] [(.int (42 : Int32))])) rfl (by rw [hml]; rfl) (argsL := [(.int (42 : Int32))]) (rest := []) (lenOf own_pd0 rfl) rfl (by show 2 * 0 + _ ≤ _; exact Nat.le_of_eq rfl) (hb hby at_73) (fun _ _ => ⟨rfl, e7, (by decide : 1 + 0 ≤ _), (by decide : 4 + 0 ≤ _)⟩)
  dsimp only [Pt.U, Pt.locs, Pt.cells, Pt.slots] at X8 l8 y8 z8 st8 hQ8
  subst l8 y8 z8
  obtain ⟨rfl, N8q, e8⟩ := hQ8
  have N8 := Fr.app N7 N8q
  obtain ⟨fs, hr, hrun, hended, hW, hsame⟩ := X8.leave (v := some (.int (1 : Int32))) (fun h => by rw [Bd.returns] at h; cases h)
  refine ⟨_, _, pre0 _ ?_, hrun, hended, _, _, rfl, ?_, ⟨_, rfl⟩, hW, hsame.mono (by decide) (by decide)⟩
  · show Steps p.tables e below (s₁.setTop (mkF m 0 #[.val (.int i0), .val (.int i1), .unset, .unset, .unset, .unset] [])) _
    refine XS.iloadN X0.here hx rfl (hb hby at_0) rfl ?_
    show Steps p.tables e below (s₁.setTop (mkF m 1 #[.val (.int i0), .val (.int i1), .unset, .unset, .unset, .unset] [(.int i1)])) _
    refine XS.iconst X0.here hx rfl (hb hby at_1) ?_
    show Steps p.tables e below (s₁.setTop (mkF m 2 #[.val (.int i0), .val (.int i1), .unset, .unset, .unset, .unset] [(.int (3 : Int32)), (.int i1)])) _
    refine XS.iand X0.here hx rfl (hb hby at_2) rfl ?_
    show Steps p.tables e below (s₁.setTop (mkF m 3 #[.val (.int i0), .val (.int i1), .unset, .unset, .unset, .unset] [(.int (i1 &&& (3 : Int32)))])) _
    rw [hm]
    show Steps p.tables e below (s₁.setTop (mkF m 3 #[.val (.int i0), .val (.int i1), .unset, .unset, .unset, .unset] [(.int (2 : Int32))])) _
    refine XS.istoreN X0.here hx rfl (hb hby at_3) rfl (l' := #[.val (.int i0), .val (.int i1), .val (.int (2 : Int32)), .unset, .unset, .unset]) rfl ?_
    show Steps p.tables e below (s₁.setTop (mkF m 4 #[.val (.int i0), .val (.int i1), .val (.int (2 : Int32)), .unset, .unset, .unset] [])) _
    refine XS.iloadN X0.here hx rfl (hb hby at_4) rfl ?_
    show Steps p.tables e below (s₁.setTop (mkF m 5 #[.val (.int i0), .val (.int i1), .val (.int (2 : Int32)), .unset, .unset, .unset] [(.int (2 : Int32))])) _
    refine XS.ifYes X0.here hx rfl (pc0 := 5) (pc' := 17) rfl (hb hby at_5) rfl ((if0 _ _).trans (feq (by decide : ¬ ((2 : Int32) = (0 : Int32)))).2) (by decide) (by decide) ?_
    show Steps p.tables e below (s₁.setTop (mkF m 17 #[.val (.int i0), .val (.int i1), .val (.int (2 : Int32)), .unset, .unset, .unset] [])) _
    refine XS.iloadN X0.here hx rfl (hb hby at_17) rfl ?_
    show Steps p.tables e below (s₁.setTop (mkF m 18 #[.val (.int i0), .val (.int i1), .val (.int (2 : Int32)), .unset, .unset, .unset] [(.int (2 : Int32))])) _
    refine XS.iconst X0.here hx rfl (hb hby at_18) ?_
    show Steps p.tables e below (s₁.setTop (mkF m 19 #[.val (.int i0), .val (.int i1), .val (.int (2 : Int32)), .unset, .unset, .unset] [(.int (1 : Int32)), (.int (2 : Int32))])) _
    refine XS.icmpYes X0.here hx rfl (pc0 := 19) (pc' := 34) rfl (hb hby at_19) rfl (feq (by decide : ¬ ((2 : Int32) = (1 : Int32)))).2 (by decide) (by decide) ?_
    show Steps p.tables e below (s₁.setTop (mkF m 34 #[.val (.int i0), .val (.int i1), .val (.int (2 : Int32)), .unset, .unset, .unset] [])) _
    refine XS.iconst X0.here hx rfl (hb hby at_34) ?_
    show Steps p.tables e below (s₁.setTop (mkF m 35 #[.val (.int i0), .val (.int i1), .val (.int (2 : Int32)), .unset, .unset, .unset] [(.int (4 : Int32))])) _
    refine st1 _ ?_
    show Steps p.tables e below (T1.setTop (mkF m 37 #[.val (.int i0), .val (.int i1), .val (.int (2 : Int32)), .unset, .unset, .unset] [(.ref b1)])) _
    refine XS.dup X1.here hx rfl (hb hby at_37) rfl rfl ?_
    show Steps p.tables e below (T1.setTop (mkF m 38 #[.val (.int i0), .val (.int i1), .val (.int (2 : Int32)), .unset, .unset, .unset] [(.ref b1), (.ref b1)])) _
    refine XS.iconst X1.here hx rfl (hb hby at_38) ?_
    show Steps p.tables e below (T1.setTop (mkF m 39 #[.val (.int i0), .val (.int i1), .val (.int (2 : Int32)), .unset, .unset, .unset] [(.int (0 : Int32)), (.ref b1), (.ref b1)])) _
    refine XS.bipush X1.here hx rfl (hb hby at_39) ?_
    show Steps p.tables e below (T1.setTop (mkF m 41 #[.val (.int i0), .val (.int i1), .val (.int (2 : Int32)), .unset, .unset, .unset] [(.int (43 : Int32)), (.int (0 : Int32)), (.ref b1), (.ref b1)])) _
    refine st2 _ ?_
    show Steps p.tables e below (T2.setTop (mkF m 42 #[.val (.int i0), .val (.int i1), .val (.int (2 : Int32)), .unset, .unset, .unset] [(.ref b1)])) _
    refine XS.dup X2.here hx rfl (hb hby at_42) rfl rfl ?_
    show Steps p.tables e below (T2.setTop (mkF m 43 #[.val (.int i0), .val (.int i1), .val (.int (2 : Int32)), .unset, .unset, .unset] [(.ref b1), (.ref b1)])) _
    refine XS.iconst X2.here hx rfl (hb hby at_43) ?_
    show Steps p.tables e below (T2.setTop (mkF m 44 #[.val (.int i0), .val (.int i1), .val (.int (2 : Int32)), .unset, .unset, .unset] [(.int (1 : Int32)), (.ref b1), (.ref b1)])) _
    refine XS.bipush X2.here hx rfl (hb hby at_44) ?_
    show Steps p.tables e below (T2.setTop (mkF m 46 #[.val (.int i0), .val (.int i1), .val (.int (2 : Int32)), .unset, .unset, .unset] [(.int (45 : Int32)), (.int (1 : Int32)), (.ref b1), (.ref b1)])) _
    refine st3 _ ?_
    show Steps p.tables e below (T3.setTop (mkF m 47 #[.val (.int i0), .val (.int i1), .val (.int (2 : Int32)), .unset, .unset, .unset] [(.ref b1)])) _
    refine XS.dup X3.here hx rfl (hb hby at_47) rfl rfl ?_
    show Steps p.tables e below (T3.setTop (mkF m 48 #[.val (.int i0), .val (.int i1), .val (.int (2 : Int32)), .unset, .unset, .unset] [(.ref b1), (.ref b1)])) _
    refine XS.iconst X3.here hx rfl (hb hby at_48) ?_
    show Steps p.tables e below (T3.setTop (mkF m 49 #[.val (.int i0), .val (.int i1), .val (.int (2 : Int32)), .unset, .unset, .unset] [(.int (2 : Int32)), (.ref b1), (.ref b1)])) _
    refine XS.bipush X3.here hx rfl (hb hby at_49) ?_
    show Steps p.tables e below (T3.setTop (mkF m 51 #[.val (.int i0), .val (.int i1), .val (.int (2 : Int32)), .unset, .unset, .unset] [(.int (42 : Int32)), (.int (2 : Int32)), (.ref b1), (.ref b1)])) _
    refine st4 _ ?_
    show Steps p.tables e below (T4.setTop (mkF m 52 #[.val (.int i0), .val (.int i1), .val (.int (2 : Int32)), .unset, .unset, .unset] [(.ref b1)])) _
    refine XS.dup X4.here hx rfl (hb hby at_52) rfl rfl ?_
    show Steps p.tables e below (T4.setTop (mkF m 53 #[.val (.int i0), .val (.int i1), .val (.int (2 : Int32)), .unset, .unset, .unset] [(.ref b1), (.ref b1)])) _
    refine XS.iconst X4.here hx rfl (hb hby at_53) ?_
    show Steps p.tables e below (T4.setTop (mkF m 54 #[.val (.int i0), .val (.int i1), .val (.int (2 : Int32)), .unset, .unset, .unset] [(.int (3 : Int32)), (.ref b1), (.ref b1)])) _
    refine XS.bipush X4.here hx rfl (hb hby at_54) ?_
    show Steps p.tables e below (T4.setTop (mkF m 56 #[.val (.int i0), .val (.int i1), .val (.int (2 : Int32)), .unset, .unset, .unset] [(.int (47 : Int32)), (.int (3 : Int32)), (.ref b1), (.ref b1)])) _
    refine st5 _ ?_
    show Steps p.tables e below (T5.setTop (mkF m 57 #[.val (.int i0), .val (.int i1), .val (.int (2 : Int32)), .unset, .unset, .unset] [(.ref b1)])) _
    refine XS.astore X5.here hx rfl (hb hby at_57) rfl rfl (l' := #[.val (.int i0), .val (.int i1), .val (.int (2 : Int32)), .unset, .val (.ref b1), .unset]) rfl ?_
    show Steps p.tables e below (T5.setTop (mkF m 59 #[.val (.int i0), .val (.int i1), .val (.int (2 : Int32)), .unset, .val (.ref b1), .unset] [])) _
    refine XS.aload X5.here hx rfl (hb hby at_59) rfl rfl ?_
    show Steps p.tables e below (T5.setTop (mkF m 61 #[.val (.int i0), .val (.int i1), .val (.int (2 : Int32)), .unset, .val (.ref b1), .unset] [(.ref b1)])) _
    refine XS.iloadN X5.here hx rfl (hb hby at_61) rfl ?_
    show Steps p.tables e below (T5.setTop (mkF m 62 #[.val (.int i0), .val (.int i1), .val (.int (2 : Int32)), .unset, .val (.ref b1), .unset] [(.int i0), (.ref b1)])) _
    refine XS.iconst X5.here hx rfl (hb hby at_62) ?_
    show Steps p.tables e below (T5.setTop (mkF m 63 #[.val (.int i0), .val (.int i1), .val (.int (2 : Int32)), .unset, .val (.ref b1), .unset] [(.int (3 : Int32)), (.int i0), (.ref b1)])) _
    refine XS.iand X5.here hx rfl (hb hby at_63) rfl ?_
    show Steps p.tables e below (T5.setTop (mkF m 64 #[.val (.int i0), .val (.int i1), .val (.int (2 : Int32)), .unset, .val (.ref b1), .unset] [(.int (i0 &&& (3 : Int32))), (.ref b1)])) _
    rw [hj]
    show Steps p.tables e below (T5.setTop (mkF m 64 #[.val (.int i0), .val (.int i1), .val (.int (2 : Int32)), .unset, .val (.ref b1), .unset] [(.int (2 : Int32)), (.ref b1)])) _
    refine X5.caload hx (j := (2 : Int32)) (v := (.int (42 : Int32))) (by rw [e5]; exact Ar_6.1) (State.isArrayOf_alike hZ.alike Ar_6.2.1) Ar_6.2.2 hin6 hat6 (g := (mkF m 64 #[.val (.int i0), .val (.int i1), .val (.int (2 : Int32)), .unset, .val (.ref b1), .unset] [(.int (2 : Int32)), (.ref b1)])) rfl rfl (hb hby at_64) _ ?_
    show Steps p.tables e below (T5.setTop (mkF m 65 #[.val (.int i0), .val (.int i1), .val (.int (2 : Int32)), .unset, .val (.ref b1), .unset] [(.int (42 : Int32))])) _
    refine XS.istoreN X5.here hx rfl (hb hby at_65) rfl (l' := #[.val (.int i0), .val (.int i1), .val (.int (2 : Int32)), .val (.int (42 : Int32)), .val (.ref b1), .unset]) rfl ?_
    show Steps p.tables e below (T5.setTop (mkF m 66 #[.val (.int i0), .val (.int i1), .val (.int (2 : Int32)), .val (.int (42 : Int32)), .val (.ref b1), .unset] [])) _
    refine XS.iloadN X5.here hx rfl (hb hby at_66) rfl ?_
    show Steps p.tables e below (T5.setTop (mkF m 67 #[.val (.int i0), .val (.int i1), .val (.int (2 : Int32)), .val (.int (42 : Int32)), .val (.ref b1), .unset] [(.int (42 : Int32))])) _
    refine st7 _ ?_
    show Steps p.tables e below (T7.setTop (mkF m 70 #[.val (.int i0), .val (.int i1), .val (.int (2 : Int32)), .val (.int (42 : Int32)), .val (.ref b1), .unset] [(.ref r2)])) _
    refine XS.astore X7.here hx rfl (hb hby at_70) rfl rfl (l' := #[.val (.int i0), .val (.int i1), .val (.int (2 : Int32)), .val (.int (42 : Int32)), .val (.ref r2), .unset]) rfl ?_
    show Steps p.tables e below (T7.setTop (mkF m 72 #[.val (.int i0), .val (.int i1), .val (.int (2 : Int32)), .val (.int (42 : Int32)), .val (.ref r2), .unset] [])) _
    refine XS.iloadN X7.here hx rfl (hb hby at_72) rfl ?_
    show Steps p.tables e below (T7.setTop (mkF m 73 #[.val (.int i0), .val (.int i1), .val (.int (2 : Int32)), .val (.int (42 : Int32)), .val (.ref r2), .unset] [(.int (42 : Int32))])) _
    refine st8 _ ?_
    show Steps p.tables e below (T8.setTop (mkF m 76 #[.val (.int i0), .val (.int i1), .val (.int (2 : Int32)), .val (.int (42 : Int32)), .val (.ref r2), .unset] [(.ref r2)])) _
    refine XS.astore X8.here hx rfl (hb hby at_76) rfl rfl (l' := #[.val (.int i0), .val (.int i1), .val (.int (2 : Int32)), .val (.int (42 : Int32)), .val (.ref r2), .val (.ref r2)]) rfl ?_
    show Steps p.tables e below (T8.setTop (mkF m 78 #[.val (.int i0), .val (.int i1), .val (.int (2 : Int32)), .val (.int (42 : Int32)), .val (.ref r2), .val (.ref r2)] [])) _
    refine XS.aload X8.here hx rfl (hb hby at_78) rfl rfl ?_
    show Steps p.tables e below (T8.setTop (mkF m 80 #[.val (.int i0), .val (.int i1), .val (.int (2 : Int32)), .val (.int (42 : Int32)), .val (.ref r2), .val (.ref r2)] [(.ref r2)])) _
    refine XS.aload X8.here hx rfl (hb hby at_80) rfl rfl ?_
    show Steps p.tables e below (T8.setTop (mkF m 82 #[.val (.int i0), .val (.int i1), .val (.int (2 : Int32)), .val (.int (42 : Int32)), .val (.ref r2), .val (.ref r2)] [(.ref r2), (.ref r2)])) _
    refine Jvm.RoadKit.acmp (g := (mkF m 82 #[.val (.int i0), .val (.int i1), .val (.int (2 : Int32)), .val (.int (42 : Int32)), .val (.ref r2), .val (.ref r2)] [(.ref r2), (.ref r2)])) X8 hx rfl rfl rfl (pc0 := 82) (pc' := 85) (same := true) rfl (hb hby at_82) rfl (decide_eq_true rfl) (by decide) (by decide) ?_
    show Steps p.tables e below (T8.setTop (mkF m 85 #[.val (.int i0), .val (.int i1), .val (.int (2 : Int32)), .val (.int (42 : Int32)), .val (.ref r2), .val (.ref r2)] [])) _
    refine XS.iconst X8.here hx rfl (hb hby at_85) ?_
    show Steps p.tables e below (T8.setTop (mkF m 86 #[.val (.int i0), .val (.int i1), .val (.int (2 : Int32)), .val (.int (42 : Int32)), .val (.ref r2), .val (.ref r2)] [(.int (1 : Int32))])) _
    refine XS.goto X8.here hx rfl (pc0 := 86) (pc' := 90) rfl (hb hby at_86) (by decide) (by decide) ?_
    show Steps p.tables e below (T8.setTop (mkF m 90 #[.val (.int i0), .val (.int i1), .val (.int (2 : Int32)), .val (.int (42 : Int32)), .val (.ref r2), .val (.ref r2)] [(.int (1 : Int32))])) _
    exact retN X8 hx (t := .boolean) Bd.returns (by simp) (hb hby at_90) hr
  · exact ⟨rfl, N8⟩
set_option maxRecDepth 65536 in
set_option maxHeartbeats 40000000 in
theorem own_r1_31 (l : Launch) (Z : State) (a0 : Array Value) (hw : ∀ d ∈ tables_1, d.before a0 Z = true) (ws : List Jvm.Cond) (r0 : Addr) (r1 : Addr) (r2 : Addr) (r3 : Addr) (r4 : Addr) (cl_r4 : Cell) (h0 : Heap) (n0 : Nat) (Z0 : n0 ≤ h0.size) (F : own_W Z h0 r0 r1 r2 r3 r4 cl_r4)   :
    MetFree l (⟨"dragoman/Operator", "bySymbol", "(C)Ldragoman/Operator;"⟩ : MethodName) (head1 (Jvm.Cond.code (⟨"dragoman/Operator", "bySymbol", "(C)Ldragoman/Operator;"⟩ : MethodName) prog_26_method_4_code 5 (some (.object "dragoman/Operator")) :: ws) ({ frames := 0, cells := 0, slots := 0, locals := 0 } : Room)) (fun a U => a = #[(.int (47 : Int32))] ∧ Z.Warmed39 U.vm ∧ U.heap = h0) (fun _ _ _ _ _ => True) (fun _ U o U' => ∃ v L, o = .returned v ∧ own_Q (.ref r3) h0 n0 v U'.heap L ∧ FrameEnd U o U' L ({ frames := 0, cells := 0, slots := 0, locals := 0 } : Room).cells ({ frames := 0, cells := 0, slots := 0, locals := 0 } : Room).slots) := by
  obtain ⟨S_r0, E_r0, S_r1, E_r1, S_r2, E_r2, S_r3, E_r3, S_r4, Ar_r4, Sz_r4, El_r4_0, F_r0_symbol, El_r4_1, F_r1_symbol, El_r4_2, F_r2_symbol, El_r4_3, F_r3_symbol, ne_r0_r1, ne_r0_r2, ne_r0_r3, ne_r1_r2, ne_r1_r3, ne_r2_r3⟩ := id F
  refine MetFree.of_bodySF (plainFor_of_name own_pn_Operator) hisR ?_
  intro p e s m args below meth c s₁ Bd hml0 hP hK
  obtain ⟨rfl, hZ, hh⟩ := hP
  have hx := Bd.exec
  have hby := Bd.bytes
  have hml : c.maxLocals = 5 := hml0
  have hown : s.vm.findClass "dragoman/Operator" = some m.cls := findClass_of_methodNamed Bd.named
  have X0 : Stand p l e ({ frames := 0, cells := 0, slots := 0, locals := 0 } : Room) s m #[(.int (47 : Int32))] below meth c s₁ [] 0 0 := Stand.of_body Bd
  have e0 : s₁.heap = h0 := by rw [← hh, Bd.state]; rfl
  have N0 := Fr.nil n0
  have pre0 : ∀ t, Steps p.tables e below (s₁.setTop (mkF m 0 #[.val (.int (47 : Int32)), .unset, .unset, .unset, .unset] [])) t → Steps p.tables e below (s₁.setTop (entryFrame m #[(.int (47 : Int32))] 5)) t := fun t k => castTop (own_ef1_I m (47 : Int32)) k
  obtain ⟨T1, X1, e1, st1⟩ := getS2 X0 hx hZ hown (host := "") (Or.inl (hw _ (List.mem_of_getElem? (i := 5) rfl))) Via.refl e0 S_r4 (g := (mkF m 0 #[.val (.int (47 : Int32)), .unset, .unset, .unset, .unset] [])) rfl (hb hby own_d1_0)
  obtain ⟨T2, X2, e2, st2⟩ := getF X1 hx hZ hown (host := "") (Or.inl (hw _ (List.mem_of_getElem? (i := 8) rfl))) Via.refl e1 F_r0_symbol (g := (mkF m 21 #[.val (.int (47 : Int32)), .val (.ref r4), .val (.int (4 : Int32)), .val (.int (0 : Int32)), .val (.ref r0)] [(.ref r0)])) rfl rfl (hb hby own_d1_21)
  obtain ⟨T3, X3, e3, st3⟩ := getF X2 hx hZ hown (host := "") (Or.inl (hw _ (List.mem_of_getElem? (i := 8) rfl))) Via.refl e2 F_r1_symbol (g := (mkF m 21 #[.val (.int (47 : Int32)), .val (.ref r4), .val (.int (4 : Int32)), .val (.int (1 : Int32)), .val (.ref r1)] [(.ref r1)])) rfl rfl (hb hby own_d1_21)
  obtain ⟨T4, X4, e4, st4⟩ := getF X3 hx hZ hown (host := "") (Or.inl (hw _ (List.mem_of_getElem? (i := 8) rfl))) Via.refl e3 F_r2_symbol (g := (mkF m 21 #[.val (.int (47 : Int32)), .val (.ref r4), .val (.int (4 : Int32)), .val (.int (2 : Int32)), .val (.ref r2)] [(.ref r2)])) rfl rfl (hb hby own_d1_21)
  obtain ⟨T5, X5, e5, st5⟩ := getF X4 hx hZ hown (host := "") (Or.inl (hw _ (List.mem_of_getElem? (i := 8) rfl))) Via.refl e4 F_r3_symbol (g := (mkF m 21 #[.val (.int (47 : Int32)), .val (.ref r4), .val (.int (4 : Int32)), .val (.int (3 : Int32)), .val (.ref r3)] [(.ref r3)])) rfl rfl (hb hby own_d1_21)
  obtain ⟨fs, hr, hrun, hended, hW, hsame⟩ := X5.leave (v := some (.ref r3)) (fun h => by rw [Bd.returns] at h; cases h)
  refine ⟨_, _, pre0 _ ?_, hrun, hended, _, _, rfl, ?_, ⟨_, rfl⟩, hW, hsame.mono (by decide) (by decide)⟩
  · show Steps p.tables e below (s₁.setTop (mkF m 0 #[.val (.int (47 : Int32)), .unset, .unset, .unset, .unset] [])) _
    refine st1 _ ?_
    show Steps p.tables e below (T1.setTop (mkF m 3 #[.val (.int (47 : Int32)), .unset, .unset, .unset, .unset] [(.ref r4)])) _
    refine XS.astoreN X1.here hx rfl (hb hby own_d1_3) rfl rfl (l' := #[.val (.int (47 : Int32)), .val (.ref r4), .unset, .unset, .unset]) rfl ?_
    show Steps p.tables e below (T1.setTop (mkF m 4 #[.val (.int (47 : Int32)), .val (.ref r4), .unset, .unset, .unset] [])) _
    refine XS.aloadN X1.here hx rfl (hb hby own_d1_4) rfl rfl ?_
    show Steps p.tables e below (T1.setTop (mkF m 5 #[.val (.int (47 : Int32)), .val (.ref r4), .unset, .unset, .unset] [(.ref r4)])) _
    refine X1.arraylength hx (by rw [e1]; exact Ar_r4.1) (State.isArrayOf_alike hZ.alike Ar_r4.2.1) (g := (mkF m 5 #[.val (.int (47 : Int32)), .val (.ref r4), .unset, .unset, .unset] [(.ref r4)])) rfl rfl (hb hby own_d1_5) _ ?_
    rw [len_of Sz_r4 (by decide)]
    show Steps p.tables e below (T1.setTop (mkF m 6 #[.val (.int (47 : Int32)), .val (.ref r4), .unset, .unset, .unset] [(.int (4 : Int32))])) _
    refine XS.istoreN X1.here hx rfl (hb hby own_d1_6) rfl (l' := #[.val (.int (47 : Int32)), .val (.ref r4), .val (.int (4 : Int32)), .unset, .unset]) rfl ?_
    show Steps p.tables e below (T1.setTop (mkF m 7 #[.val (.int (47 : Int32)), .val (.ref r4), .val (.int (4 : Int32)), .unset, .unset] [])) _
    refine XS.iconst X1.here hx rfl (hb hby own_d1_7) ?_
    show Steps p.tables e below (T1.setTop (mkF m 8 #[.val (.int (47 : Int32)), .val (.ref r4), .val (.int (4 : Int32)), .unset, .unset] [(.int (0 : Int32))])) _
    refine XS.istoreN X1.here hx rfl (hb hby own_d1_8) rfl (l' := #[.val (.int (47 : Int32)), .val (.ref r4), .val (.int (4 : Int32)), .val (.int (0 : Int32)), .unset]) rfl ?_
    show Steps p.tables e below (T1.setTop (mkF m 9 #[.val (.int (47 : Int32)), .val (.ref r4), .val (.int (4 : Int32)), .val (.int (0 : Int32)), .unset] [])) _
    refine XS.iloadN X1.here hx rfl (hb hby own_d1_9) rfl ?_
    show Steps p.tables e below (T1.setTop (mkF m 10 #[.val (.int (47 : Int32)), .val (.ref r4), .val (.int (4 : Int32)), .val (.int (0 : Int32)), .unset] [(.int (0 : Int32))])) _
    refine XS.iloadN X1.here hx rfl (hb hby own_d1_10) rfl ?_
    show Steps p.tables e below (T1.setTop (mkF m 11 #[.val (.int (47 : Int32)), .val (.ref r4), .val (.int (4 : Int32)), .val (.int (0 : Int32)), .unset] [(.int (4 : Int32)), (.int (0 : Int32))])) _
    refine XS.icmpNo X1.here hx rfl (hb hby own_d1_11) rfl (tlt (by decide : (0 : Int32) < (4 : Int32))).2.1 ?_
    show Steps p.tables e below (T1.setTop (mkF m 14 #[.val (.int (47 : Int32)), .val (.ref r4), .val (.int (4 : Int32)), .val (.int (0 : Int32)), .unset] [])) _
    refine XS.aloadN X1.here hx rfl (hb hby own_d1_14) rfl rfl ?_
    show Steps p.tables e below (T1.setTop (mkF m 15 #[.val (.int (47 : Int32)), .val (.ref r4), .val (.int (4 : Int32)), .val (.int (0 : Int32)), .unset] [(.ref r4)])) _
    refine XS.iloadN X1.here hx rfl (hb hby own_d1_15) rfl ?_
    show Steps p.tables e below (T1.setTop (mkF m 16 #[.val (.int (47 : Int32)), .val (.ref r4), .val (.int (4 : Int32)), .val (.int (0 : Int32)), .unset] [(.int (0 : Int32)), (.ref r4)])) _
    refine X1.aaload hx (j := (0 : Int32)) (v := (.ref r0)) (by rw [e1]; exact Ar_r4.1) (State.isArrayOf_alike hZ.alike Ar_r4.2.1) rfl Ar_r4.2.2 (inb_of Sz_r4 ⟨by decide, by decide⟩) El_r4_0 (g := (mkF m 16 #[.val (.int (47 : Int32)), .val (.ref r4), .val (.int (4 : Int32)), .val (.int (0 : Int32)), .unset] [(.int (0 : Int32)), (.ref r4)])) rfl rfl (hb hby own_d1_16) _ ?_
    show Steps p.tables e below (T1.setTop (mkF m 17 #[.val (.int (47 : Int32)), .val (.ref r4), .val (.int (4 : Int32)), .val (.int (0 : Int32)), .unset] [(.ref r0)])) _
    refine XS.astore X1.here hx rfl (hb hby own_d1_17) rfl rfl (l' := #[.val (.int (47 : Int32)), .val (.ref r4), .val (.int (4 : Int32)), .val (.int (0 : Int32)), .val (.ref r0)]) rfl ?_
    show Steps p.tables e below (T1.setTop (mkF m 19 #[.val (.int (47 : Int32)), .val (.ref r4), .val (.int (4 : Int32)), .val (.int (0 : Int32)), .val (.ref r0)] [])) _
    refine XS.aload X1.here hx rfl (hb hby own_d1_19) rfl rfl ?_
    show Steps p.tables e below (T1.setTop (mkF m 21 #[.val (.int (47 : Int32)), .val (.ref r4), .val (.int (4 : Int32)), .val (.int (0 : Int32)), .val (.ref r0)] [(.ref r0)])) _
    refine st2 _ ?_
    show Steps p.tables e below (T2.setTop (mkF m 24 #[.val (.int (47 : Int32)), .val (.ref r4), .val (.int (4 : Int32)), .val (.int (0 : Int32)), .val (.ref r0)] [(.int (43 : Int32))])) _
    refine XS.iloadN X2.here hx rfl (hb hby own_d1_24) rfl ?_
    show Steps p.tables e below (T2.setTop (mkF m 25 #[.val (.int (47 : Int32)), .val (.ref r4), .val (.int (4 : Int32)), .val (.int (0 : Int32)), .val (.ref r0)] [(.int (47 : Int32)), (.int (43 : Int32))])) _
    refine XS.icmpYes X2.here hx rfl (pc0 := 25) (pc' := 31) rfl (hb hby own_d1_25) rfl (feq (by decide : ¬ ((43 : Int32) = (47 : Int32)))).2 (by decide) (by decide) ?_
    show Steps p.tables e below (T2.setTop (mkF m 31 #[.val (.int (47 : Int32)), .val (.ref r4), .val (.int (4 : Int32)), .val (.int (0 : Int32)), .val (.ref r0)] [])) _
    refine XS.iinc X2.here hx rfl (hb hby own_d1_31) rfl (l' := #[.val (.int (47 : Int32)), .val (.ref r4), .val (.int (4 : Int32)), .val (.int ((0 : Int32) + (1 : Int32))), .val (.ref r0)]) rfl ?_
    show Steps p.tables e below (T2.setTop (mkF m 34 #[.val (.int (47 : Int32)), .val (.ref r4), .val (.int (4 : Int32)), .val (.int ((0 : Int32) + (1 : Int32))), .val (.ref r0)] [])) _
    rw [show ((0 : Int32) + (1 : Int32)) = (1 : Int32) from by decide]
    show Steps p.tables e below (T2.setTop (mkF m 34 #[.val (.int (47 : Int32)), .val (.ref r4), .val (.int (4 : Int32)), .val (.int (1 : Int32)), .val (.ref r0)] [])) _
    refine XS.goto X2.here hx rfl (pc0 := 34) (pc' := 9) rfl (hb hby own_d1_34) (by decide) (by decide) ?_
    show Steps p.tables e below (T2.setTop (mkF m 9 #[.val (.int (47 : Int32)), .val (.ref r4), .val (.int (4 : Int32)), .val (.int (1 : Int32)), .val (.ref r0)] [])) _
    refine XS.iloadN X2.here hx rfl (hb hby own_d1_9) rfl ?_
    show Steps p.tables e below (T2.setTop (mkF m 10 #[.val (.int (47 : Int32)), .val (.ref r4), .val (.int (4 : Int32)), .val (.int (1 : Int32)), .val (.ref r0)] [(.int (1 : Int32))])) _
    refine XS.iloadN X2.here hx rfl (hb hby own_d1_10) rfl ?_
    show Steps p.tables e below (T2.setTop (mkF m 11 #[.val (.int (47 : Int32)), .val (.ref r4), .val (.int (4 : Int32)), .val (.int (1 : Int32)), .val (.ref r0)] [(.int (4 : Int32)), (.int (1 : Int32))])) _
    refine XS.icmpNo X2.here hx rfl (hb hby own_d1_11) rfl (tlt (by decide : (1 : Int32) < (4 : Int32))).2.1 ?_
    show Steps p.tables e below (T2.setTop (mkF m 14 #[.val (.int (47 : Int32)), .val (.ref r4), .val (.int (4 : Int32)), .val (.int (1 : Int32)), .val (.ref r0)] [])) _
    refine XS.aloadN X2.here hx rfl (hb hby own_d1_14) rfl rfl ?_
    show Steps p.tables e below (T2.setTop (mkF m 15 #[.val (.int (47 : Int32)), .val (.ref r4), .val (.int (4 : Int32)), .val (.int (1 : Int32)), .val (.ref r0)] [(.ref r4)])) _
    refine XS.iloadN X2.here hx rfl (hb hby own_d1_15) rfl ?_
    show Steps p.tables e below (T2.setTop (mkF m 16 #[.val (.int (47 : Int32)), .val (.ref r4), .val (.int (4 : Int32)), .val (.int (1 : Int32)), .val (.ref r0)] [(.int (1 : Int32)), (.ref r4)])) _
    refine X2.aaload hx (j := (1 : Int32)) (v := (.ref r1)) (by rw [e2]; exact Ar_r4.1) (State.isArrayOf_alike hZ.alike Ar_r4.2.1) rfl Ar_r4.2.2 (inb_of Sz_r4 ⟨by decide, by decide⟩) El_r4_1 (g := (mkF m 16 #[.val (.int (47 : Int32)), .val (.ref r4), .val (.int (4 : Int32)), .val (.int (1 : Int32)), .val (.ref r0)] [(.int (1 : Int32)), (.ref r4)])) rfl rfl (hb hby own_d1_16) _ ?_
    show Steps p.tables e below (T2.setTop (mkF m 17 #[.val (.int (47 : Int32)), .val (.ref r4), .val (.int (4 : Int32)), .val (.int (1 : Int32)), .val (.ref r0)] [(.ref r1)])) _
    refine XS.astore X2.here hx rfl (hb hby own_d1_17) rfl rfl (l' := #[.val (.int (47 : Int32)), .val (.ref r4), .val (.int (4 : Int32)), .val (.int (1 : Int32)), .val (.ref r1)]) rfl ?_
    show Steps p.tables e below (T2.setTop (mkF m 19 #[.val (.int (47 : Int32)), .val (.ref r4), .val (.int (4 : Int32)), .val (.int (1 : Int32)), .val (.ref r1)] [])) _
    refine XS.aload X2.here hx rfl (hb hby own_d1_19) rfl rfl ?_
    show Steps p.tables e below (T2.setTop (mkF m 21 #[.val (.int (47 : Int32)), .val (.ref r4), .val (.int (4 : Int32)), .val (.int (1 : Int32)), .val (.ref r1)] [(.ref r1)])) _
    refine st3 _ ?_
    show Steps p.tables e below (T3.setTop (mkF m 24 #[.val (.int (47 : Int32)), .val (.ref r4), .val (.int (4 : Int32)), .val (.int (1 : Int32)), .val (.ref r1)] [(.int (45 : Int32))])) _
    refine XS.iloadN X3.here hx rfl (hb hby own_d1_24) rfl ?_
    show Steps p.tables e below (T3.setTop (mkF m 25 #[.val (.int (47 : Int32)), .val (.ref r4), .val (.int (4 : Int32)), .val (.int (1 : Int32)), .val (.ref r1)] [(.int (47 : Int32)), (.int (45 : Int32))])) _
    refine XS.icmpYes X3.here hx rfl (pc0 := 25) (pc' := 31) rfl (hb hby own_d1_25) rfl (feq (by decide : ¬ ((45 : Int32) = (47 : Int32)))).2 (by decide) (by decide) ?_
    show Steps p.tables e below (T3.setTop (mkF m 31 #[.val (.int (47 : Int32)), .val (.ref r4), .val (.int (4 : Int32)), .val (.int (1 : Int32)), .val (.ref r1)] [])) _
    refine XS.iinc X3.here hx rfl (hb hby own_d1_31) rfl (l' := #[.val (.int (47 : Int32)), .val (.ref r4), .val (.int (4 : Int32)), .val (.int ((1 : Int32) + (1 : Int32))), .val (.ref r1)]) rfl ?_
    show Steps p.tables e below (T3.setTop (mkF m 34 #[.val (.int (47 : Int32)), .val (.ref r4), .val (.int (4 : Int32)), .val (.int ((1 : Int32) + (1 : Int32))), .val (.ref r1)] [])) _
    rw [show ((1 : Int32) + (1 : Int32)) = (2 : Int32) from by decide]
    show Steps p.tables e below (T3.setTop (mkF m 34 #[.val (.int (47 : Int32)), .val (.ref r4), .val (.int (4 : Int32)), .val (.int (2 : Int32)), .val (.ref r1)] [])) _
    refine XS.goto X3.here hx rfl (pc0 := 34) (pc' := 9) rfl (hb hby own_d1_34) (by decide) (by decide) ?_
    show Steps p.tables e below (T3.setTop (mkF m 9 #[.val (.int (47 : Int32)), .val (.ref r4), .val (.int (4 : Int32)), .val (.int (2 : Int32)), .val (.ref r1)] [])) _
    refine XS.iloadN X3.here hx rfl (hb hby own_d1_9) rfl ?_
    show Steps p.tables e below (T3.setTop (mkF m 10 #[.val (.int (47 : Int32)), .val (.ref r4), .val (.int (4 : Int32)), .val (.int (2 : Int32)), .val (.ref r1)] [(.int (2 : Int32))])) _
    refine XS.iloadN X3.here hx rfl (hb hby own_d1_10) rfl ?_
    show Steps p.tables e below (T3.setTop (mkF m 11 #[.val (.int (47 : Int32)), .val (.ref r4), .val (.int (4 : Int32)), .val (.int (2 : Int32)), .val (.ref r1)] [(.int (4 : Int32)), (.int (2 : Int32))])) _
    refine XS.icmpNo X3.here hx rfl (hb hby own_d1_11) rfl (tlt (by decide : (2 : Int32) < (4 : Int32))).2.1 ?_
    show Steps p.tables e below (T3.setTop (mkF m 14 #[.val (.int (47 : Int32)), .val (.ref r4), .val (.int (4 : Int32)), .val (.int (2 : Int32)), .val (.ref r1)] [])) _
    refine XS.aloadN X3.here hx rfl (hb hby own_d1_14) rfl rfl ?_
    show Steps p.tables e below (T3.setTop (mkF m 15 #[.val (.int (47 : Int32)), .val (.ref r4), .val (.int (4 : Int32)), .val (.int (2 : Int32)), .val (.ref r1)] [(.ref r4)])) _
    refine XS.iloadN X3.here hx rfl (hb hby own_d1_15) rfl ?_
    show Steps p.tables e below (T3.setTop (mkF m 16 #[.val (.int (47 : Int32)), .val (.ref r4), .val (.int (4 : Int32)), .val (.int (2 : Int32)), .val (.ref r1)] [(.int (2 : Int32)), (.ref r4)])) _
    refine X3.aaload hx (j := (2 : Int32)) (v := (.ref r2)) (by rw [e3]; exact Ar_r4.1) (State.isArrayOf_alike hZ.alike Ar_r4.2.1) rfl Ar_r4.2.2 (inb_of Sz_r4 ⟨by decide, by decide⟩) El_r4_2 (g := (mkF m 16 #[.val (.int (47 : Int32)), .val (.ref r4), .val (.int (4 : Int32)), .val (.int (2 : Int32)), .val (.ref r1)] [(.int (2 : Int32)), (.ref r4)])) rfl rfl (hb hby own_d1_16) _ ?_
    show Steps p.tables e below (T3.setTop (mkF m 17 #[.val (.int (47 : Int32)), .val (.ref r4), .val (.int (4 : Int32)), .val (.int (2 : Int32)), .val (.ref r1)] [(.ref r2)])) _
    refine XS.astore X3.here hx rfl (hb hby own_d1_17) rfl rfl (l' := #[.val (.int (47 : Int32)), .val (.ref r4), .val (.int (4 : Int32)), .val (.int (2 : Int32)), .val (.ref r2)]) rfl ?_
    show Steps p.tables e below (T3.setTop (mkF m 19 #[.val (.int (47 : Int32)), .val (.ref r4), .val (.int (4 : Int32)), .val (.int (2 : Int32)), .val (.ref r2)] [])) _
    refine XS.aload X3.here hx rfl (hb hby own_d1_19) rfl rfl ?_
    show Steps p.tables e below (T3.setTop (mkF m 21 #[.val (.int (47 : Int32)), .val (.ref r4), .val (.int (4 : Int32)), .val (.int (2 : Int32)), .val (.ref r2)] [(.ref r2)])) _
    refine st4 _ ?_
    show Steps p.tables e below (T4.setTop (mkF m 24 #[.val (.int (47 : Int32)), .val (.ref r4), .val (.int (4 : Int32)), .val (.int (2 : Int32)), .val (.ref r2)] [(.int (42 : Int32))])) _
    refine XS.iloadN X4.here hx rfl (hb hby own_d1_24) rfl ?_
    show Steps p.tables e below (T4.setTop (mkF m 25 #[.val (.int (47 : Int32)), .val (.ref r4), .val (.int (4 : Int32)), .val (.int (2 : Int32)), .val (.ref r2)] [(.int (47 : Int32)), (.int (42 : Int32))])) _
    refine XS.icmpYes X4.here hx rfl (pc0 := 25) (pc' := 31) rfl (hb hby own_d1_25) rfl (feq (by decide : ¬ ((42 : Int32) = (47 : Int32)))).2 (by decide) (by decide) ?_
    show Steps p.tables e below (T4.setTop (mkF m 31 #[.val (.int (47 : Int32)), .val (.ref r4), .val (.int (4 : Int32)), .val (.int (2 : Int32)), .val (.ref r2)] [])) _
    refine XS.iinc X4.here hx rfl (hb hby own_d1_31) rfl (l' := #[.val (.int (47 : Int32)), .val (.ref r4), .val (.int (4 : Int32)), .val (.int ((2 : Int32) + (1 : Int32))), .val (.ref r2)]) rfl ?_
    show Steps p.tables e below (T4.setTop (mkF m 34 #[.val (.int (47 : Int32)), .val (.ref r4), .val (.int (4 : Int32)), .val (.int ((2 : Int32) + (1 : Int32))), .val (.ref r2)] [])) _
    rw [show ((2 : Int32) + (1 : Int32)) = (3 : Int32) from by decide]
    show Steps p.tables e below (T4.setTop (mkF m 34 #[.val (.int (47 : Int32)), .val (.ref r4), .val (.int (4 : Int32)), .val (.int (3 : Int32)), .val (.ref r2)] [])) _
    refine XS.goto X4.here hx rfl (pc0 := 34) (pc' := 9) rfl (hb hby own_d1_34) (by decide) (by decide) ?_
    show Steps p.tables e below (T4.setTop (mkF m 9 #[.val (.int (47 : Int32)), .val (.ref r4), .val (.int (4 : Int32)), .val (.int (3 : Int32)), .val (.ref r2)] [])) _
    refine XS.iloadN X4.here hx rfl (hb hby own_d1_9) rfl ?_
    show Steps p.tables e below (T4.setTop (mkF m 10 #[.val (.int (47 : Int32)), .val (.ref r4), .val (.int (4 : Int32)), .val (.int (3 : Int32)), .val (.ref r2)] [(.int (3 : Int32))])) _
    refine XS.iloadN X4.here hx rfl (hb hby own_d1_10) rfl ?_
    show Steps p.tables e below (T4.setTop (mkF m 11 #[.val (.int (47 : Int32)), .val (.ref r4), .val (.int (4 : Int32)), .val (.int (3 : Int32)), .val (.ref r2)] [(.int (4 : Int32)), (.int (3 : Int32))])) _
    refine XS.icmpNo X4.here hx rfl (hb hby own_d1_11) rfl (tlt (by decide : (3 : Int32) < (4 : Int32))).2.1 ?_
    show Steps p.tables e below (T4.setTop (mkF m 14 #[.val (.int (47 : Int32)), .val (.ref r4), .val (.int (4 : Int32)), .val (.int (3 : Int32)), .val (.ref r2)] [])) _
    refine XS.aloadN X4.here hx rfl (hb hby own_d1_14) rfl rfl ?_
    show Steps p.tables e below (T4.setTop (mkF m 15 #[.val (.int (47 : Int32)), .val (.ref r4), .val (.int (4 : Int32)), .val (.int (3 : Int32)), .val (.ref r2)] [(.ref r4)])) _
    refine XS.iloadN X4.here hx rfl (hb hby own_d1_15) rfl ?_
    show Steps p.tables e below (T4.setTop (mkF m 16 #[.val (.int (47 : Int32)), .val (.ref r4), .val (.int (4 : Int32)), .val (.int (3 : Int32)), .val (.ref r2)] [(.int (3 : Int32)), (.ref r4)])) _
    refine X4.aaload hx (j := (3 : Int32)) (v := (.ref r3)) (by rw [e4]; exact Ar_r4.1) (State.isArrayOf_alike hZ.alike Ar_r4.2.1) rfl Ar_r4.2.2 (inb_of Sz_r4 ⟨by decide, by decide⟩) El_r4_3 (g := (mkF m 16 #[.val (.int (47 : Int32)), .val (.ref r4), .val (.int (4 : Int32)), .val (.int (3 : Int32)), .val (.ref r2)] [(.int (3 : Int32)), (.ref r4)])) rfl rfl (hb hby own_d1_16) _ ?_
    show Steps p.tables e below (T4.setTop (mkF m 17 #[.val (.int (47 : Int32)), .val (.ref r4), .val (.int (4 : Int32)), .val (.int (3 : Int32)), .val (.ref r2)] [(.ref r3)])) _
    refine XS.astore X4.here hx rfl (hb hby own_d1_17) rfl rfl (l' := #[.val (.int (47 : Int32)), .val (.ref r4), .val (.int (4 : Int32)), .val (.int (3 : Int32)), .val (.ref r3)]) rfl ?_
    show Steps p.tables e below (T4.setTop (mkF m 19 #[.val (.int (47 : Int32)), .val (.ref r4), .val (.int (4 : Int32)), .val (.int (3 : Int32)), .val (.ref r3)] [])) _
    refine XS.aload X4.here hx rfl (hb hby own_d1_19) rfl rfl ?_
    show Steps p.tables e below (T4.setTop (mkF m 21 #[.val (.int (47 : Int32)), .val (.ref r4), .val (.int (4 : Int32)), .val (.int (3 : Int32)), .val (.ref r3)] [(.ref r3)])) _
    refine st5 _ ?_
    show Steps p.tables e below (T5.setTop (mkF m 24 #[.val (.int (47 : Int32)), .val (.ref r4), .val (.int (4 : Int32)), .val (.int (3 : Int32)), .val (.ref r3)] [(.int (47 : Int32))])) _
    refine XS.iloadN X5.here hx rfl (hb hby own_d1_24) rfl ?_
    show Steps p.tables e below (T5.setTop (mkF m 25 #[.val (.int (47 : Int32)), .val (.ref r4), .val (.int (4 : Int32)), .val (.int (3 : Int32)), .val (.ref r3)] [(.int (47 : Int32)), (.int (47 : Int32))])) _
    refine XS.icmpNo X5.here hx rfl (hb hby own_d1_25) rfl (teq (by decide : (47 : Int32) = (47 : Int32))).2 ?_
    show Steps p.tables e below (T5.setTop (mkF m 28 #[.val (.int (47 : Int32)), .val (.ref r4), .val (.int (4 : Int32)), .val (.int (3 : Int32)), .val (.ref r3)] [])) _
    refine XS.aload X5.here hx rfl (hb hby own_d1_28) rfl rfl ?_
    show Steps p.tables e below (T5.setTop (mkF m 30 #[.val (.int (47 : Int32)), .val (.ref r4), .val (.int (4 : Int32)), .val (.int (3 : Int32)), .val (.ref r3)] [(.ref r3)])) _
    jvm_step X5.here [X5.here.top, hx, (hb hby own_d1_30), X5.method', Bd.returns, Value.isRef, FieldType.isReference]
    first | (intro acts; rw [hr _ acts rfl rfl rfl]) | rw [hr _ _ rfl rfl rfl]
    exact Steps.refl _
  · exact ⟨rfl, N0, e5⟩
set_option maxRecDepth 65536 in
set_option maxHeartbeats 40000000 in
theorem own_r2_32 (l : Launch) (Z : State) (a0 : Array Value) (hw : ∀ d ∈ tables_1, d.before a0 Z = true) (ws : List Jvm.Cond) (r0 : Addr) (r1 : Addr) (r2 : Addr) (r3 : Addr) (r4 : Addr) (cl_r4 : Cell) (h0 : Heap) (n0 : Nat) (Z0 : n0 ≤ h0.size) (F : own_W Z h0 r0 r1 r2 r3 r4 cl_r4)   :
    MetFree l (⟨"dragoman/OperatorBySymbolPinLaw", "expected", "(C)Ldragoman/Operator;"⟩ : MethodName) (head1 (Jvm.Cond.code (⟨"dragoman/OperatorBySymbolPinLaw", "expected", "(C)Ldragoman/Operator;"⟩ : MethodName) method_3_code 1 (some (.object "dragoman/Operator")) :: ws) ({ frames := 0, cells := 0, slots := 0, locals := 0 } : Room)) (fun a U => a = #[(.int (47 : Int32))] ∧ Z.Warmed39 U.vm ∧ U.heap = h0) (fun _ _ _ _ _ => True) (fun _ U o U' => ∃ v L, o = .returned v ∧ own_Q (.ref r3) h0 n0 v U'.heap L ∧ FrameEnd U o U' L ({ frames := 0, cells := 0, slots := 0, locals := 0 } : Room).cells ({ frames := 0, cells := 0, slots := 0, locals := 0 } : Room).slots) := by
  obtain ⟨S_r0, E_r0, S_r1, E_r1, S_r2, E_r2, S_r3, E_r3, S_r4, Ar_r4, Sz_r4, El_r4_0, F_r0_symbol, El_r4_1, F_r1_symbol, El_r4_2, F_r2_symbol, El_r4_3, F_r3_symbol, ne_r0_r1, ne_r0_r2, ne_r0_r3, ne_r1_r2, ne_r1_r3, ne_r2_r3⟩ := id F
  refine MetFree.of_bodySF (plainFor_of_name own_pn_OperatorBySymbolPinLaw) hisR ?_
  intro p e s m args below meth c s₁ Bd hml0 hP hK
  obtain ⟨rfl, hZ, hh⟩ := hP
  have hx := Bd.exec
  have hby := Bd.bytes
  have hml : c.maxLocals = 1 := hml0
  have hown : s.vm.findClass "dragoman/OperatorBySymbolPinLaw" = some m.cls := findClass_of_methodNamed Bd.named
  have X0 : Stand p l e ({ frames := 0, cells := 0, slots := 0, locals := 0 } : Room) s m #[(.int (47 : Int32))] below meth c s₁ [] 0 0 := Stand.of_body Bd
  have e0 : s₁.heap = h0 := by rw [← hh, Bd.state]; rfl
  have N0 := Fr.nil n0
  have pre0 : ∀ t, Steps p.tables e below (s₁.setTop (mkF m 0 #[.val (.int (47 : Int32))] [])) t → Steps p.tables e below (s₁.setTop (entryFrame m #[(.int (47 : Int32))] 1)) t := fun t k => castTop (own_ef2_I m (47 : Int32)) k
  obtain ⟨T1, X1, e1, st1⟩ := getS2 X0 hx hZ hown (host := "") (Or.inl (hw _ (List.mem_of_getElem? (i := 19) rfl))) Via.refl e0 S_r3 (g := (mkF m 36 #[.val (.int (47 : Int32))] [])) rfl (hb hby own_d2_36)
  obtain ⟨fs, hr, hrun, hended, hW, hsame⟩ := X1.leave (v := some (.ref r3)) (fun h => by rw [Bd.returns] at h; cases h)
  refine ⟨_, _, pre0 _ ?_, hrun, hended, _, _, rfl, ?_, ⟨_, rfl⟩, hW, hsame.mono (by decide) (by decide)⟩
  · show Steps p.tables e below (s₁.setTop (mkF m 0 #[.val (.int (47 : Int32))] [])) _
    refine XS.iloadN X0.here hx rfl (hb hby own_d2_0) rfl ?_
    show Steps p.tables e below (s₁.setTop (mkF m 1 #[.val (.int (47 : Int32))] [(.int (47 : Int32))])) _
    refine XS.bipush X0.here hx rfl (hb hby own_d2_1) ?_
    show Steps p.tables e below (s₁.setTop (mkF m 3 #[.val (.int (47 : Int32))] [(.int (43 : Int32)), (.int (47 : Int32))])) _
    refine XS.icmpYes X0.here hx rfl (pc0 := 3) (pc' := 10) rfl (hb hby own_d2_3) rfl (feq (by decide : ¬ ((47 : Int32) = (43 : Int32)))).2 (by decide) (by decide) ?_
    show Steps p.tables e below (s₁.setTop (mkF m 10 #[.val (.int (47 : Int32))] [])) _
    refine XS.iloadN X0.here hx rfl (hb hby own_d2_10) rfl ?_
    show Steps p.tables e below (s₁.setTop (mkF m 11 #[.val (.int (47 : Int32))] [(.int (47 : Int32))])) _
    refine XS.bipush X0.here hx rfl (hb hby own_d2_11) ?_
    show Steps p.tables e below (s₁.setTop (mkF m 13 #[.val (.int (47 : Int32))] [(.int (45 : Int32)), (.int (47 : Int32))])) _
    refine XS.icmpYes X0.here hx rfl (pc0 := 13) (pc' := 20) rfl (hb hby own_d2_13) rfl (feq (by decide : ¬ ((47 : Int32) = (45 : Int32)))).2 (by decide) (by decide) ?_
    show Steps p.tables e below (s₁.setTop (mkF m 20 #[.val (.int (47 : Int32))] [])) _
    refine XS.iloadN X0.here hx rfl (hb hby own_d2_20) rfl ?_
    show Steps p.tables e below (s₁.setTop (mkF m 21 #[.val (.int (47 : Int32))] [(.int (47 : Int32))])) _
    refine XS.bipush X0.here hx rfl (hb hby own_d2_21) ?_
    show Steps p.tables e below (s₁.setTop (mkF m 23 #[.val (.int (47 : Int32))] [(.int (42 : Int32)), (.int (47 : Int32))])) _
    refine XS.icmpYes X0.here hx rfl (pc0 := 23) (pc' := 30) rfl (hb hby own_d2_23) rfl (feq (by decide : ¬ ((47 : Int32) = (42 : Int32)))).2 (by decide) (by decide) ?_
    show Steps p.tables e below (s₁.setTop (mkF m 30 #[.val (.int (47 : Int32))] [])) _
    refine XS.iloadN X0.here hx rfl (hb hby own_d2_30) rfl ?_
    show Steps p.tables e below (s₁.setTop (mkF m 31 #[.val (.int (47 : Int32))] [(.int (47 : Int32))])) _
    refine XS.bipush X0.here hx rfl (hb hby own_d2_31) ?_
    show Steps p.tables e below (s₁.setTop (mkF m 33 #[.val (.int (47 : Int32))] [(.int (47 : Int32)), (.int (47 : Int32))])) _
    refine XS.icmpNo X0.here hx rfl (hb hby own_d2_33) rfl (teq (by decide : (47 : Int32) = (47 : Int32))).2 ?_
    show Steps p.tables e below (s₁.setTop (mkF m 36 #[.val (.int (47 : Int32))] [])) _
    refine st1 _ ?_
    show Steps p.tables e below (T1.setTop (mkF m 39 #[.val (.int (47 : Int32))] [(.ref r3)])) _
    jvm_step X1.here [X1.here.top, hx, (hb hby own_d2_39), X1.method', Bd.returns, Value.isRef, FieldType.isReference]
    first | (intro acts; rw [hr _ acts rfl rfl rfl]) | rw [hr _ _ rfl rfl rfl]
    exact Steps.refl _
  · exact ⟨rfl, N0, e1⟩
set_option maxRecDepth 65536 in
set_option maxHeartbeats 40000000 in
theorem own_r0_m2j3 (l : Launch) (Z : State) (a0 : Array Value) (hw : ∀ d ∈ tables_1, d.before a0 Z = true) (ws : List Jvm.Cond) (r0 : Addr) (r1 : Addr) (r2 : Addr) (r3 : Addr) (r4 : Addr) (cl_r4 : Cell) (h0 : Heap) (n0 : Nat) (Z0 : n0 ≤ h0.size) (F : own_W Z h0 r0 r1 r2 r3 r4 cl_r4) (i0 : Int32) (i1 : Int32) (hm : (i1 &&& (3 : Int32)) = (2 : Int32)) (hj : (i0 &&& (3 : Int32)) = (3 : Int32)) :
    MetFree l x (head1 (Jvm.Cond.code x code maxLocals ret :: ws) room_1) (fun a U => a = #[(.int i0), (.int i1)] ∧ Z.Warmed39 U.vm ∧ U.heap = h0) (fun _ _ _ _ _ => True) (fun _ U o U' => ∃ v L, o = .returned v ∧ own_Q0 (.int (1 : Int32)) n0 v U'.heap L ∧ FrameEnd U o U' L room_1.cells room_1.slots) := by
  obtain ⟨S_r0, E_r0, S_r1, E_r1, S_r2, E_r2, S_r3, E_r3, S_r4, Ar_r4, Sz_r4, El_r4_0, F_r0_symbol, El_r4_1, F_r1_symbol, El_r4_2, F_r2_symbol, El_r4_3, F_r3_symbol, ne_r0_r1, ne_r0_r2, ne_r0_r3, ne_r1_r2, ne_r1_r3, ne_r2_r3⟩ := id F
  refine MetFree.of_bodySF (plainFor_of_name own_pn_OperatorBySymbolPinLaw) hisR ?_
  intro p e s m args below meth c s₁ Bd hml0 hP hK
  obtain ⟨rfl, hZ, hh⟩ := hP
  have hx := Bd.exec
  have hby := Bd.bytes
  have hml : c.maxLocals = 6 := hml0
  have hown : s.vm.findClass "dragoman/OperatorBySymbolPinLaw" = some m.cls := findClass_of_methodNamed Bd.named
  have X0 : Stand p l e room_1 s m #[(.int i0), (.int i1)] below meth c s₁ [] 0 0 := Stand.of_body Bd
  have e0 : s₁.heap = h0 := by rw [← hh, Bd.state]; rfl
  have N0 := Fr.nil n0
  have pre0 : ∀ t, Steps p.tables e below (s₁.setTop (mkF m 0 #[.val (.int i0), .val (.int i1), .unset, .unset, .unset, .unset] [])) t → Steps p.tables e below (s₁.setTop (entryFrame m #[(.int i0), (.int i1)] maxLocals)) t := fun t k => castTop (own_ef0_II m i0 i1) k
  obtain ⟨T1, h1, k1, X1, e1, E1, A1, st1⟩ := newP X0 hx hZ (hw _ (List.mem_of_getElem? (i := 0) rfl)) e0 (g := (mkF m 35 #[.val (.int i0), .val (.int i1), .val (.int (2 : Int32)), .unset, .unset, .unset] [(.int (4 : Int32))])) rfl (hb hby at_35) rfl (by decide) (cap := 4) (by decide) (by decide) (by decide) (by decide)
  obtain ⟨b1, g1⟩ : ∃ z, z = h0.size := ⟨_, rfl⟩
  rw [← g1] at A1 st1
  have V_1 : Arv Z h1 b1 k1 .char (4 : Int32) [(.int (0 : Int32)), (.int (0 : Int32)), (.int (0 : Int32)), (.int (0 : Int32))] (.int (0 : Int32)) := (Arv.new A1 (by decide)).pad (pad_rep [] (.int (0 : Int32)) 4)
  have g_b1 : n0 ≤ b1 := Nat.le_trans Z0 (Nat.le_of_eq g1.symm)
  have sz_b1 : h0.size ≤ b1 := Nat.le_trans (Keep.refl h0 []).1 (Nat.le_of_eq g1.symm)
  have K1 : Keep h0 h1 [] := (Keep.refl h0 []).ext E1
  have F1 : own_W Z h1 r0 r1 r2 r3 r4 cl_r4 := own_W_ext ⟨K1.1, fun a c q => K1.2.1 a c q (by simp)⟩ F
  obtain ⟨cl_2, Ar_2, q_2, S_2, N_2, H_2, G_2⟩ := V_1
  obtain ⟨T2, h2, X2, e2, W2, st2⟩ := stC X1 hx hZ e1 Ar_2 (j := (0 : Int32)) (inb_of S_2 ⟨by decide, by decide⟩) (g := (mkF m 41 #[.val (.int i0), .val (.int i1), .val (.int (2 : Int32)), .unset, .unset, .unset] [(.int (43 : Int32)), (.int (0 : Int32)), (.ref b1), (.ref b1)])) rfl rfl (hb hby at_41)
  have V_2 := Arv.set Ar_2 q_2 S_2 N_2 H_2 G_2 (fits_nar_char _) W2 0 rfl (Nat.le_of_ble_eq_true rfl)
  have K2 : Keep h0 h2 [] := K1.wr W2 (Or.inr sz_b1)
  have N2 := Fr.snoc X2 N0 g_b1
  have F2 : own_W Z h2 r0 r1 r2 r3 r4 cl_r4 := own_W_ext ⟨K2.1, fun a c q => K2.2.1 a c q (by simp)⟩ F
  obtain ⟨cl_3, Ar_3, q_3, S_3, N_3, H_3, G_3⟩ := V_2
  obtain ⟨T3, h3, X3, e3, W3, st3⟩ := stC X2 hx hZ e2 Ar_3 (j := (1 : Int32)) (inb_of S_3 ⟨by decide, by decide⟩) (g := (mkF m 46 #[.val (.int i0), .val (.int i1), .val (.int (2 : Int32)), .unset, .unset, .unset] [(.int (45 : Int32)), (.int (1 : Int32)), (.ref b1), (.ref b1)])) rfl rfl (hb hby at_46)
  have V_3 := Arv.set Ar_3 q_3 S_3 N_3 H_3 G_3 (fits_nar_char _) W3 1 rfl (Nat.le_of_ble_eq_true rfl)
  have K3 : Keep h0 h3 [] := K2.wr W3 (Or.inr sz_b1)
  have N3 := Fr.snoc X3 N2 g_b1
  have F3 : own_W Z h3 r0 r1 r2 r3 r4 cl_r4 := own_W_ext ⟨K3.1, fun a c q => K3.2.1 a c q (by simp)⟩ F
  obtain ⟨cl_4, Ar_4, q_4, S_4, N_4, H_4, G_4⟩ := V_3
  obtain ⟨T4, h4, X4, e4, W4, st4⟩ := stC X3 hx hZ e3 Ar_4 (j := (2 : Int32)) (inb_of S_4 ⟨by decide, by decide⟩) (g := (mkF m 51 #[.val (.int i0), .val (.int i1), .val (.int (2 : Int32)), .unset, .unset, .unset] [(.int (42 : Int32)), (.int (2 : Int32)), (.ref b1), (.ref b1)])) rfl rfl (hb hby at_51)
  have V_4 := Arv.set Ar_4 q_4 S_4 N_4 H_4 G_4 (fits_nar_char _) W4 2 rfl (Nat.le_of_ble_eq_true rfl)
  have K4 : Keep h0 h4 [] := K3.wr W4 (Or.inr sz_b1)
  have N4 := Fr.snoc X4 N3 g_b1
  have F4 : own_W Z h4 r0 r1 r2 r3 r4 cl_r4 := own_W_ext ⟨K4.1, fun a c q => K4.2.1 a c q (by simp)⟩ F
  obtain ⟨cl_5, Ar_5, q_5, S_5, N_5, H_5, G_5⟩ := V_4
  obtain ⟨T5, h5, X5, e5, W5, st5⟩ := stC X4 hx hZ e4 Ar_5 (j := (3 : Int32)) (inb_of S_5 ⟨by decide, by decide⟩) (g := (mkF m 56 #[.val (.int i0), .val (.int i1), .val (.int (2 : Int32)), .unset, .unset, .unset] [(.int (47 : Int32)), (.int (3 : Int32)), (.ref b1), (.ref b1)])) rfl rfl (hb hby at_56)
  have V_5 := Arv.set Ar_5 q_5 S_5 N_5 H_5 G_5 (fits_nar_char _) W5 3 rfl (Nat.le_of_ble_eq_true rfl)
  have K5 : Keep h0 h5 [] := K4.wr W5 (Or.inr sz_b1)
  have N5 := Fr.snoc X5 N4 g_b1
  have F5 : own_W Z h5 r0 r1 r2 r3 r4 cl_r4 := own_W_ext ⟨K5.1, fun a c q => K5.2.1 a c q (by simp)⟩ F
  obtain ⟨cl_6, Ar_6, q_6, S_6, N_6, H_6, G_6⟩ := id V_5
  have hin6 : ¬ ((3 : Int32) < 0 ∨ cl_6.slots.size ≤ ((3 : Int32)).toNatClampNeg) := inb_of S_6 ⟨by decide, by decide⟩
  have hat6 : cl_6.slots[((3 : Int32)).toNatClampNeg]? = some (.int (47 : Int32)) := Has.at H_6 hin6 rfl
  obtain ⟨_, _, ⟨T7, L7, k7, n7⟩, -, X7, ⟨Lc7, hQ7, l7, y7, z7⟩, st7⟩ := Jvm.LawKit.callS X5 hx (y := (⟨"dragoman/Operator", "bySymbol", "(C)Ldragoman/Operator;"⟩ : MethodName)) hown (mvT hZ (hw _ (List.mem_of_getElem? (i := 1) rfl))) (mvT hZ (hw _ (List.mem_of_getElem? (i := 2) rfl))) (mvT hZ (hw _ (List.mem_of_getElem? (i := 3) rfl))) (mvT hZ (hw _ (List.mem_of_getElem? (i := 4) rfl))) (by decide) (backOf (W := 0) (own_r1_31 l Z a0 hw [] r0 r1 r2 r3 r4 cl_r4 h5 n0 (Nat.le_trans Z0 K5.1) F5 ) hZ (hw _ (List.mem_of_getElem? (i := 4) rfl)) (hw _ (List.mem_of_getElem? (i := 3) rfl)) (by decide) (by decide)) (g := (mkF m 67 #[.val (.int i0), .val (.int i1), .val (.int (2 : Int32)), .val (.int (47 : Int32)), .val (.ref b1), .unset] [(.int (47 : Int32))])) rfl (by rw [hml]; rfl) (argsL := [(.int (47 : Int32))]) (rest := []) (lenOf own_pd0 rfl) rfl (by show 2 * 0 + _ ≤ _; exact Nat.le_of_eq rfl) (hb hby at_67) (fun _ _ => ⟨rfl, e5, (by decide : 1 + 0 ≤ _), (by decide : 4 + 0 ≤ _)⟩)
  dsimp only [Pt.U, Pt.locs, Pt.cells, Pt.slots] at X7 l7 y7 z7 st7 hQ7
  subst l7 y7 z7
  obtain ⟨rfl, N7q, e7⟩ := hQ7
  have N7 := Fr.app N5 N7q
  obtain ⟨_, _, ⟨T8, L8, k8, n8⟩, -, X8, ⟨Lc8, hQ8, l8, y8, z8⟩, st8⟩ := Jvm.LawKit.callS X7 hx (y := (⟨"dragoman/OperatorBySymbolPinLaw", "expected", "(C)Ldragoman/Operator;"⟩ : MethodName)) hown (mvT hZ (hw _ (List.mem_of_getElem? (i := 10) rfl))) (mvT hZ (hw _ (List.mem_of_getElem? (i := 11) rfl))) (mvT hZ (hw _ (List.mem_of_getElem? (i := 12) rfl))) (mvT hZ (hw _ (List.mem_of_getElem? (i := 13) rfl))) (by decide) (backOf (W := 0) (own_r2_32 l Z a0 hw [] r0 r1 r2 r3 r4 cl_r4 h5 n0 (Nat.le_trans Z0 K5.1) F5 ) hZ (hw _ (List.mem_of_getElem? (i := 13) rfl)) (hw _ (List.mem_of_getElem? (i := 12) rfl)) (by decide) (by decide)) (g := (mkF m 73 #[.val (.int i0), .val (.int i1), .val (.int (2 : Int32)), .val (.int (47 : Int32)), .val (.ref r3), .unset] [(.int (47 : Int32))])) rfl (by rw [hml]; rfl) (argsL := [(.int (47 : Int32))]) (rest := []) (lenOf own_pd0 rfl) rfl (by show 2 * 0 + _ ≤ _; exact Nat.le_of_eq rfl) (hb hby at_73) (fun _ _ => ⟨rfl, e7, (by decide : 1 + 0 ≤ _), (by decide : 4 + 0 ≤ _)⟩)
  dsimp only [Pt.U, Pt.locs, Pt.cells, Pt.slots] at X8 l8 y8 z8 st8 hQ8
  subst l8 y8 z8
  obtain ⟨rfl, N8q, e8⟩ := hQ8
  have N8 := Fr.app N7 N8q
  obtain ⟨fs, hr, hrun, hended, hW, hsame⟩ := X8.leave (v := some (.int (1 : Int32))) (fun h => by rw [Bd.returns] at h; cases h)
  refine ⟨_, _, pre0 _ ?_, hrun, hended, _, _, rfl, ?_, ⟨_, rfl⟩, hW, hsame.mono (by decide) (by decide)⟩
  · show Steps p.tables e below (s₁.setTop (mkF m 0 #[.val (.int i0), .val (.int i1), .unset, .unset, .unset, .unset] [])) _
    refine XS.iloadN X0.here hx rfl (hb hby at_0) rfl ?_
    show Steps p.tables e below (s₁.setTop (mkF m 1 #[.val (.int i0), .val (.int i1), .unset, .unset, .unset, .unset] [(.int i1)])) _
    refine XS.iconst X0.here hx rfl (hb hby at_1) ?_
    show Steps p.tables e below (s₁.setTop (mkF m 2 #[.val (.int i0), .val (.int i1), .unset, .unset, .unset, .unset] [(.int (3 : Int32)), (.int i1)])) _
    refine XS.iand X0.here hx rfl (hb hby at_2) rfl ?_
    show Steps p.tables e below (s₁.setTop (mkF m 3 #[.val (.int i0), .val (.int i1), .unset, .unset, .unset, .unset] [(.int (i1 &&& (3 : Int32)))])) _
    rw [hm]
    show Steps p.tables e below (s₁.setTop (mkF m 3 #[.val (.int i0), .val (.int i1), .unset, .unset, .unset, .unset] [(.int (2 : Int32))])) _
    refine XS.istoreN X0.here hx rfl (hb hby at_3) rfl (l' := #[.val (.int i0), .val (.int i1), .val (.int (2 : Int32)), .unset, .unset, .unset]) rfl ?_
    show Steps p.tables e below (s₁.setTop (mkF m 4 #[.val (.int i0), .val (.int i1), .val (.int (2 : Int32)), .unset, .unset, .unset] [])) _
    refine XS.iloadN X0.here hx rfl (hb hby at_4) rfl ?_
    show Steps p.tables e below (s₁.setTop (mkF m 5 #[.val (.int i0), .val (.int i1), .val (.int (2 : Int32)), .unset, .unset, .unset] [(.int (2 : Int32))])) _
    refine XS.ifYes X0.here hx rfl (pc0 := 5) (pc' := 17) rfl (hb hby at_5) rfl ((if0 _ _).trans (feq (by decide : ¬ ((2 : Int32) = (0 : Int32)))).2) (by decide) (by decide) ?_
    show Steps p.tables e below (s₁.setTop (mkF m 17 #[.val (.int i0), .val (.int i1), .val (.int (2 : Int32)), .unset, .unset, .unset] [])) _
    refine XS.iloadN X0.here hx rfl (hb hby at_17) rfl ?_
    show Steps p.tables e below (s₁.setTop (mkF m 18 #[.val (.int i0), .val (.int i1), .val (.int (2 : Int32)), .unset, .unset, .unset] [(.int (2 : Int32))])) _
    refine XS.iconst X0.here hx rfl (hb hby at_18) ?_
    show Steps p.tables e below (s₁.setTop (mkF m 19 #[.val (.int i0), .val (.int i1), .val (.int (2 : Int32)), .unset, .unset, .unset] [(.int (1 : Int32)), (.int (2 : Int32))])) _
    refine XS.icmpYes X0.here hx rfl (pc0 := 19) (pc' := 34) rfl (hb hby at_19) rfl (feq (by decide : ¬ ((2 : Int32) = (1 : Int32)))).2 (by decide) (by decide) ?_
    show Steps p.tables e below (s₁.setTop (mkF m 34 #[.val (.int i0), .val (.int i1), .val (.int (2 : Int32)), .unset, .unset, .unset] [])) _
    refine XS.iconst X0.here hx rfl (hb hby at_34) ?_
    show Steps p.tables e below (s₁.setTop (mkF m 35 #[.val (.int i0), .val (.int i1), .val (.int (2 : Int32)), .unset, .unset, .unset] [(.int (4 : Int32))])) _
    refine st1 _ ?_
    show Steps p.tables e below (T1.setTop (mkF m 37 #[.val (.int i0), .val (.int i1), .val (.int (2 : Int32)), .unset, .unset, .unset] [(.ref b1)])) _
    refine XS.dup X1.here hx rfl (hb hby at_37) rfl rfl ?_
    show Steps p.tables e below (T1.setTop (mkF m 38 #[.val (.int i0), .val (.int i1), .val (.int (2 : Int32)), .unset, .unset, .unset] [(.ref b1), (.ref b1)])) _
    refine XS.iconst X1.here hx rfl (hb hby at_38) ?_
    show Steps p.tables e below (T1.setTop (mkF m 39 #[.val (.int i0), .val (.int i1), .val (.int (2 : Int32)), .unset, .unset, .unset] [(.int (0 : Int32)), (.ref b1), (.ref b1)])) _
    refine XS.bipush X1.here hx rfl (hb hby at_39) ?_
    show Steps p.tables e below (T1.setTop (mkF m 41 #[.val (.int i0), .val (.int i1), .val (.int (2 : Int32)), .unset, .unset, .unset] [(.int (43 : Int32)), (.int (0 : Int32)), (.ref b1), (.ref b1)])) _
    refine st2 _ ?_
    show Steps p.tables e below (T2.setTop (mkF m 42 #[.val (.int i0), .val (.int i1), .val (.int (2 : Int32)), .unset, .unset, .unset] [(.ref b1)])) _
    refine XS.dup X2.here hx rfl (hb hby at_42) rfl rfl ?_
    show Steps p.tables e below (T2.setTop (mkF m 43 #[.val (.int i0), .val (.int i1), .val (.int (2 : Int32)), .unset, .unset, .unset] [(.ref b1), (.ref b1)])) _
    refine XS.iconst X2.here hx rfl (hb hby at_43) ?_
    show Steps p.tables e below (T2.setTop (mkF m 44 #[.val (.int i0), .val (.int i1), .val (.int (2 : Int32)), .unset, .unset, .unset] [(.int (1 : Int32)), (.ref b1), (.ref b1)])) _
    refine XS.bipush X2.here hx rfl (hb hby at_44) ?_
    show Steps p.tables e below (T2.setTop (mkF m 46 #[.val (.int i0), .val (.int i1), .val (.int (2 : Int32)), .unset, .unset, .unset] [(.int (45 : Int32)), (.int (1 : Int32)), (.ref b1), (.ref b1)])) _
    refine st3 _ ?_
    show Steps p.tables e below (T3.setTop (mkF m 47 #[.val (.int i0), .val (.int i1), .val (.int (2 : Int32)), .unset, .unset, .unset] [(.ref b1)])) _
    refine XS.dup X3.here hx rfl (hb hby at_47) rfl rfl ?_
    show Steps p.tables e below (T3.setTop (mkF m 48 #[.val (.int i0), .val (.int i1), .val (.int (2 : Int32)), .unset, .unset, .unset] [(.ref b1), (.ref b1)])) _
    refine XS.iconst X3.here hx rfl (hb hby at_48) ?_
    show Steps p.tables e below (T3.setTop (mkF m 49 #[.val (.int i0), .val (.int i1), .val (.int (2 : Int32)), .unset, .unset, .unset] [(.int (2 : Int32)), (.ref b1), (.ref b1)])) _
    refine XS.bipush X3.here hx rfl (hb hby at_49) ?_
    show Steps p.tables e below (T3.setTop (mkF m 51 #[.val (.int i0), .val (.int i1), .val (.int (2 : Int32)), .unset, .unset, .unset] [(.int (42 : Int32)), (.int (2 : Int32)), (.ref b1), (.ref b1)])) _
    refine st4 _ ?_
    show Steps p.tables e below (T4.setTop (mkF m 52 #[.val (.int i0), .val (.int i1), .val (.int (2 : Int32)), .unset, .unset, .unset] [(.ref b1)])) _
    refine XS.dup X4.here hx rfl (hb hby at_52) rfl rfl ?_
    show Steps p.tables e below (T4.setTop (mkF m 53 #[.val (.int i0), .val (.int i1), .val (.int (2 : Int32)), .unset, .unset, .unset] [(.ref b1), (.ref b1)])) _
    refine XS.iconst X4.here hx rfl (hb hby at_53) ?_
    show Steps p.tables e below (T4.setTop (mkF m 54 #[.val (.int i0), .val (.int i1), .val (.int (2 : Int32)), .unset, .unset, .unset] [(.int (3 : Int32)), (.ref b1), (.ref b1)])) _
    refine XS.bipush X4.here hx rfl (hb hby at_54) ?_
    show Steps p.tables e below (T4.setTop (mkF m 56 #[.val (.int i0), .val (.int i1), .val (.int (2 : Int32)), .unset, .unset, .unset] [(.int (47 : Int32)), (.int (3 : Int32)), (.ref b1), (.ref b1)])) _
    refine st5 _ ?_
    show Steps p.tables e below (T5.setTop (mkF m 57 #[.val (.int i0), .val (.int i1), .val (.int (2 : Int32)), .unset, .unset, .unset] [(.ref b1)])) _
    refine XS.astore X5.here hx rfl (hb hby at_57) rfl rfl (l' := #[.val (.int i0), .val (.int i1), .val (.int (2 : Int32)), .unset, .val (.ref b1), .unset]) rfl ?_
    show Steps p.tables e below (T5.setTop (mkF m 59 #[.val (.int i0), .val (.int i1), .val (.int (2 : Int32)), .unset, .val (.ref b1), .unset] [])) _
    refine XS.aload X5.here hx rfl (hb hby at_59) rfl rfl ?_
    show Steps p.tables e below (T5.setTop (mkF m 61 #[.val (.int i0), .val (.int i1), .val (.int (2 : Int32)), .unset, .val (.ref b1), .unset] [(.ref b1)])) _
    refine XS.iloadN X5.here hx rfl (hb hby at_61) rfl ?_
    show Steps p.tables e below (T5.setTop (mkF m 62 #[.val (.int i0), .val (.int i1), .val (.int (2 : Int32)), .unset, .val (.ref b1), .unset] [(.int i0), (.ref b1)])) _
    refine XS.iconst X5.here hx rfl (hb hby at_62) ?_
    show Steps p.tables e below (T5.setTop (mkF m 63 #[.val (.int i0), .val (.int i1), .val (.int (2 : Int32)), .unset, .val (.ref b1), .unset] [(.int (3 : Int32)), (.int i0), (.ref b1)])) _
    refine XS.iand X5.here hx rfl (hb hby at_63) rfl ?_
    show Steps p.tables e below (T5.setTop (mkF m 64 #[.val (.int i0), .val (.int i1), .val (.int (2 : Int32)), .unset, .val (.ref b1), .unset] [(.int (i0 &&& (3 : Int32))), (.ref b1)])) _
    rw [hj]
    show Steps p.tables e below (T5.setTop (mkF m 64 #[.val (.int i0), .val (.int i1), .val (.int (2 : Int32)), .unset, .val (.ref b1), .unset] [(.int (3 : Int32)), (.ref b1)])) _
    refine X5.caload hx (j := (3 : Int32)) (v := (.int (47 : Int32))) (by rw [e5]; exact Ar_6.1) (State.isArrayOf_alike hZ.alike Ar_6.2.1) Ar_6.2.2 hin6 hat6 (g := (mkF m 64 #[.val (.int i0), .val (.int i1), .val (.int (2 : Int32)), .unset, .val (.ref b1), .unset] [(.int (3 : Int32)), (.ref b1)])) rfl rfl (hb hby at_64) _ ?_
    show Steps p.tables e below (T5.setTop (mkF m 65 #[.val (.int i0), .val (.int i1), .val (.int (2 : Int32)), .unset, .val (.ref b1), .unset] [(.int (47 : Int32))])) _
    refine XS.istoreN X5.here hx rfl (hb hby at_65) rfl (l' := #[.val (.int i0), .val (.int i1), .val (.int (2 : Int32)), .val (.int (47 : Int32)), .val (.ref b1), .unset]) rfl ?_
    show Steps p.tables e below (T5.setTop (mkF m 66 #[.val (.int i0), .val (.int i1), .val (.int (2 : Int32)), .val (.int (47 : Int32)), .val (.ref b1), .unset] [])) _
    refine XS.iloadN X5.here hx rfl (hb hby at_66) rfl ?_
    show Steps p.tables e below (T5.setTop (mkF m 67 #[.val (.int i0), .val (.int i1), .val (.int (2 : Int32)), .val (.int (47 : Int32)), .val (.ref b1), .unset] [(.int (47 : Int32))])) _
    refine st7 _ ?_
    show Steps p.tables e below (T7.setTop (mkF m 70 #[.val (.int i0), .val (.int i1), .val (.int (2 : Int32)), .val (.int (47 : Int32)), .val (.ref b1), .unset] [(.ref r3)])) _
    refine XS.astore X7.here hx rfl (hb hby at_70) rfl rfl (l' := #[.val (.int i0), .val (.int i1), .val (.int (2 : Int32)), .val (.int (47 : Int32)), .val (.ref r3), .unset]) rfl ?_
    show Steps p.tables e below (T7.setTop (mkF m 72 #[.val (.int i0), .val (.int i1), .val (.int (2 : Int32)), .val (.int (47 : Int32)), .val (.ref r3), .unset] [])) _
    refine XS.iloadN X7.here hx rfl (hb hby at_72) rfl ?_
    show Steps p.tables e below (T7.setTop (mkF m 73 #[.val (.int i0), .val (.int i1), .val (.int (2 : Int32)), .val (.int (47 : Int32)), .val (.ref r3), .unset] [(.int (47 : Int32))])) _
    refine st8 _ ?_
    show Steps p.tables e below (T8.setTop (mkF m 76 #[.val (.int i0), .val (.int i1), .val (.int (2 : Int32)), .val (.int (47 : Int32)), .val (.ref r3), .unset] [(.ref r3)])) _
    refine XS.astore X8.here hx rfl (hb hby at_76) rfl rfl (l' := #[.val (.int i0), .val (.int i1), .val (.int (2 : Int32)), .val (.int (47 : Int32)), .val (.ref r3), .val (.ref r3)]) rfl ?_
    show Steps p.tables e below (T8.setTop (mkF m 78 #[.val (.int i0), .val (.int i1), .val (.int (2 : Int32)), .val (.int (47 : Int32)), .val (.ref r3), .val (.ref r3)] [])) _
    refine XS.aload X8.here hx rfl (hb hby at_78) rfl rfl ?_
    show Steps p.tables e below (T8.setTop (mkF m 80 #[.val (.int i0), .val (.int i1), .val (.int (2 : Int32)), .val (.int (47 : Int32)), .val (.ref r3), .val (.ref r3)] [(.ref r3)])) _
    refine XS.aload X8.here hx rfl (hb hby at_80) rfl rfl ?_
    show Steps p.tables e below (T8.setTop (mkF m 82 #[.val (.int i0), .val (.int i1), .val (.int (2 : Int32)), .val (.int (47 : Int32)), .val (.ref r3), .val (.ref r3)] [(.ref r3), (.ref r3)])) _
    refine Jvm.RoadKit.acmp (g := (mkF m 82 #[.val (.int i0), .val (.int i1), .val (.int (2 : Int32)), .val (.int (47 : Int32)), .val (.ref r3), .val (.ref r3)] [(.ref r3), (.ref r3)])) X8 hx rfl rfl rfl (pc0 := 82) (pc' := 85) (same := true) rfl (hb hby at_82) rfl (decide_eq_true rfl) (by decide) (by decide) ?_
    show Steps p.tables e below (T8.setTop (mkF m 85 #[.val (.int i0), .val (.int i1), .val (.int (2 : Int32)), .val (.int (47 : Int32)), .val (.ref r3), .val (.ref r3)] [])) _
    refine XS.iconst X8.here hx rfl (hb hby at_85) ?_
    show Steps p.tables e below (T8.setTop (mkF m 86 #[.val (.int i0), .val (.int i1), .val (.int (2 : Int32)), .val (.int (47 : Int32)), .val (.ref r3), .val (.ref r3)] [(.int (1 : Int32))])) _
    refine XS.goto X8.here hx rfl (pc0 := 86) (pc' := 90) rfl (hb hby at_86) (by decide) (by decide) ?_
    show Steps p.tables e below (T8.setTop (mkF m 90 #[.val (.int i0), .val (.int i1), .val (.int (2 : Int32)), .val (.int (47 : Int32)), .val (.ref r3), .val (.ref r3)] [(.int (1 : Int32))])) _
    exact retN X8 hx (t := .boolean) Bd.returns (by simp) (hb hby at_90) hr
  · exact ⟨rfl, N8⟩
set_option maxRecDepth 65536 in
set_option maxHeartbeats 40000000 in
theorem own_r0_m3j0 (l : Launch) (Z : State) (a0 : Array Value) (hw : ∀ d ∈ tables_1, d.before a0 Z = true) (ws : List Jvm.Cond) (r0 : Addr) (r1 : Addr) (r2 : Addr) (r3 : Addr) (r4 : Addr) (cl_r4 : Cell) (h0 : Heap) (n0 : Nat) (Z0 : n0 ≤ h0.size) (F : own_W Z h0 r0 r1 r2 r3 r4 cl_r4) (i0 : Int32) (i1 : Int32) (hm : (i1 &&& (3 : Int32)) = (3 : Int32)) (hj : (i0 &&& (3 : Int32)) = (0 : Int32)) :
    MetFree l x (head1 (Jvm.Cond.code x code maxLocals ret :: ws) room_1) (fun a U => a = #[(.int i0), (.int i1)] ∧ Z.Warmed39 U.vm ∧ U.heap = h0) (fun _ _ _ _ _ => True) (fun _ U o U' => ∃ v L, o = .returned v ∧ own_Q0 (.int (1 : Int32)) n0 v U'.heap L ∧ FrameEnd U o U' L room_1.cells room_1.slots) := by
  obtain ⟨S_r0, E_r0, S_r1, E_r1, S_r2, E_r2, S_r3, E_r3, S_r4, Ar_r4, Sz_r4, El_r4_0, F_r0_symbol, El_r4_1, F_r1_symbol, El_r4_2, F_r2_symbol, El_r4_3, F_r3_symbol, ne_r0_r1, ne_r0_r2, ne_r0_r3, ne_r1_r2, ne_r1_r3, ne_r2_r3⟩ := id F
  refine MetFree.of_bodySF (plainFor_of_name own_pn_OperatorBySymbolPinLaw) hisR ?_
  intro p e s m args below meth c s₁ Bd hml0 hP hK
  obtain ⟨rfl, hZ, hh⟩ := hP
  have hx := Bd.exec
  have hby := Bd.bytes
  have hml : c.maxLocals = 6 := hml0
  have hown : s.vm.findClass "dragoman/OperatorBySymbolPinLaw" = some m.cls := findClass_of_methodNamed Bd.named
  have X0 : Stand p l e room_1 s m #[(.int i0), (.int i1)] below meth c s₁ [] 0 0 := Stand.of_body Bd
  have e0 : s₁.heap = h0 := by rw [← hh, Bd.state]; rfl
  have N0 := Fr.nil n0
  have pre0 : ∀ t, Steps p.tables e below (s₁.setTop (mkF m 0 #[.val (.int i0), .val (.int i1), .unset, .unset, .unset, .unset] [])) t → Steps p.tables e below (s₁.setTop (entryFrame m #[(.int i0), (.int i1)] maxLocals)) t := fun t k => castTop (own_ef0_II m i0 i1) k
  obtain ⟨T1, h1, k1, X1, e1, E1, A1, st1⟩ := newP X0 hx hZ (hw _ (List.mem_of_getElem? (i := 0) rfl)) e0 (g := (mkF m 35 #[.val (.int i0), .val (.int i1), .val (.int (3 : Int32)), .unset, .unset, .unset] [(.int (4 : Int32))])) rfl (hb hby at_35) rfl (by decide) (cap := 4) (by decide) (by decide) (by decide) (by decide)
  obtain ⟨b1, g1⟩ : ∃ z, z = h0.size := ⟨_, rfl⟩
  rw [← g1] at A1 st1
  have V_1 : Arv Z h1 b1 k1 .char (4 : Int32) [(.int (0 : Int32)), (.int (0 : Int32)), (.int (0 : Int32)), (.int (0 : Int32))] (.int (0 : Int32)) := (Arv.new A1 (by decide)).pad (pad_rep [] (.int (0 : Int32)) 4)
  have g_b1 : n0 ≤ b1 := Nat.le_trans Z0 (Nat.le_of_eq g1.symm)
  have sz_b1 : h0.size ≤ b1 := Nat.le_trans (Keep.refl h0 []).1 (Nat.le_of_eq g1.symm)
  have K1 : Keep h0 h1 [] := (Keep.refl h0 []).ext E1
  have F1 : own_W Z h1 r0 r1 r2 r3 r4 cl_r4 := own_W_ext ⟨K1.1, fun a c q => K1.2.1 a c q (by simp)⟩ F
  obtain ⟨cl_2, Ar_2, q_2, S_2, N_2, H_2, G_2⟩ := V_1
  obtain ⟨T2, h2, X2, e2, W2, st2⟩ := stC X1 hx hZ e1 Ar_2 (j := (0 : Int32)) (inb_of S_2 ⟨by decide, by decide⟩) (g := (mkF m 41 #[.val (.int i0), .val (.int i1), .val (.int (3 : Int32)), .unset, .unset, .unset] [(.int (43 : Int32)), (.int (0 : Int32)), (.ref b1), (.ref b1)])) rfl rfl (hb hby at_41)
  have V_2 := Arv.set Ar_2 q_2 S_2 N_2 H_2 G_2 (fits_nar_char _) W2 0 rfl (Nat.le_of_ble_eq_true rfl)
  have K2 : Keep h0 h2 [] := K1.wr W2 (Or.inr sz_b1)
  have N2 := Fr.snoc X2 N0 g_b1
  have F2 : own_W Z h2 r0 r1 r2 r3 r4 cl_r4 := own_W_ext ⟨K2.1, fun a c q => K2.2.1 a c q (by simp)⟩ F
  obtain ⟨cl_3, Ar_3, q_3, S_3, N_3, H_3, G_3⟩ := V_2
  obtain ⟨T3, h3, X3, e3, W3, st3⟩ := stC X2 hx hZ e2 Ar_3 (j := (1 : Int32)) (inb_of S_3 ⟨by decide, by decide⟩) (g := (mkF m 46 #[.val (.int i0), .val (.int i1), .val (.int (3 : Int32)), .unset, .unset, .unset] [(.int (45 : Int32)), (.int (1 : Int32)), (.ref b1), (.ref b1)])) rfl rfl (hb hby at_46)
  have V_3 := Arv.set Ar_3 q_3 S_3 N_3 H_3 G_3 (fits_nar_char _) W3 1 rfl (Nat.le_of_ble_eq_true rfl)
  have K3 : Keep h0 h3 [] := K2.wr W3 (Or.inr sz_b1)
  have N3 := Fr.snoc X3 N2 g_b1
  have F3 : own_W Z h3 r0 r1 r2 r3 r4 cl_r4 := own_W_ext ⟨K3.1, fun a c q => K3.2.1 a c q (by simp)⟩ F
  obtain ⟨cl_4, Ar_4, q_4, S_4, N_4, H_4, G_4⟩ := V_3
  obtain ⟨T4, h4, X4, e4, W4, st4⟩ := stC X3 hx hZ e3 Ar_4 (j := (2 : Int32)) (inb_of S_4 ⟨by decide, by decide⟩) (g := (mkF m 51 #[.val (.int i0), .val (.int i1), .val (.int (3 : Int32)), .unset, .unset, .unset] [(.int (42 : Int32)), (.int (2 : Int32)), (.ref b1), (.ref b1)])) rfl rfl (hb hby at_51)
  have V_4 := Arv.set Ar_4 q_4 S_4 N_4 H_4 G_4 (fits_nar_char _) W4 2 rfl (Nat.le_of_ble_eq_true rfl)
  have K4 : Keep h0 h4 [] := K3.wr W4 (Or.inr sz_b1)
  have N4 := Fr.snoc X4 N3 g_b1
  have F4 : own_W Z h4 r0 r1 r2 r3 r4 cl_r4 := own_W_ext ⟨K4.1, fun a c q => K4.2.1 a c q (by simp)⟩ F
  obtain ⟨cl_5, Ar_5, q_5, S_5, N_5, H_5, G_5⟩ := V_4
  obtain ⟨T5, h5, X5, e5, W5, st5⟩ := stC X4 hx hZ e4 Ar_5 (j := (3 : Int32)) (inb_of S_5 ⟨by decide, by decide⟩) (g := (mkF m 56 #[.val (.int i0), .val (.int i1), .val (.int (3 : Int32)), .unset, .unset, .unset] [(.int (47 : Int32)), (.int (3 : Int32)), (.ref b1), (.ref b1)])) rfl rfl (hb hby at_56)
  have V_5 := Arv.set Ar_5 q_5 S_5 N_5 H_5 G_5 (fits_nar_char _) W5 3 rfl (Nat.le_of_ble_eq_true rfl)
  have K5 : Keep h0 h5 [] := K4.wr W5 (Or.inr sz_b1)
  have N5 := Fr.snoc X5 N4 g_b1
  have F5 : own_W Z h5 r0 r1 r2 r3 r4 cl_r4 := own_W_ext ⟨K5.1, fun a c q => K5.2.1 a c q (by simp)⟩ F
  obtain ⟨cl_6, Ar_6, q_6, S_6, N_6, H_6, G_6⟩ := id V_5
  have hin6 : ¬ ((0 : Int32) < 0 ∨ cl_6.slots.size ≤ ((0 : Int32)).toNatClampNeg) := inb_of S_6 ⟨by decide, by decide⟩
  have hat6 : cl_6.slots[((0 : Int32)).toNatClampNeg]? = some (.int (43 : Int32)) := Has.at H_6 hin6 rfl
  obtain ⟨_, _, ⟨T7, L7, k7, n7⟩, -, X7, ⟨Lc7, hQ7, l7, y7, z7⟩, st7⟩ := Jvm.LawKit.callS X5 hx (y := (⟨"dragoman/Operator", "bySymbol", "(C)Ldragoman/Operator;"⟩ : MethodName)) hown (mvT hZ (hw _ (List.mem_of_getElem? (i := 1) rfl))) (mvT hZ (hw _ (List.mem_of_getElem? (i := 2) rfl))) (mvT hZ (hw _ (List.mem_of_getElem? (i := 3) rfl))) (mvT hZ (hw _ (List.mem_of_getElem? (i := 4) rfl))) (by decide) (backOf (W := 0) (own_r1_22 l Z a0 hw [] r0 r1 r2 r3 r4 cl_r4 h5 n0 (Nat.le_trans Z0 K5.1) F5 ) hZ (hw _ (List.mem_of_getElem? (i := 4) rfl)) (hw _ (List.mem_of_getElem? (i := 3) rfl)) (by decide) (by decide)) (g := (mkF m 67 #[.val (.int i0), .val (.int i1), .val (.int (3 : Int32)), .val (.int (43 : Int32)), .val (.ref b1), .unset] [(.int (43 : Int32))])) rfl (by rw [hml]; rfl) (argsL := [(.int (43 : Int32))]) (rest := []) (lenOf own_pd0 rfl) rfl (by show 2 * 0 + _ ≤ _; exact Nat.le_of_eq rfl) (hb hby at_67) (fun _ _ => ⟨rfl, e5, (by decide : 1 + 0 ≤ _), (by decide : 4 + 0 ≤ _)⟩)
  dsimp only [Pt.U, Pt.locs, Pt.cells, Pt.slots] at X7 l7 y7 z7 st7 hQ7
  subst l7 y7 z7
  obtain ⟨rfl, N7q, e7⟩ := hQ7
  have N7 := Fr.app N5 N7q
  obtain ⟨_, _, ⟨T8, L8, k8, n8⟩, -, X8, ⟨Lc8, hQ8, l8, y8, z8⟩, st8⟩ := Jvm.LawKit.callS X7 hx (y := (⟨"dragoman/OperatorBySymbolPinLaw", "expected", "(C)Ldragoman/Operator;"⟩ : MethodName)) hown (mvT hZ (hw _ (List.mem_of_getElem? (i := 10) rfl))) (mvT hZ (hw _ (List.mem_of_getElem? (i := 11) rfl))) (mvT hZ (hw _ (List.mem_of_getElem? (i := 12) rfl))) (mvT hZ (hw _ (List.mem_of_getElem? (i := 13) rfl))) (by decide) (backOf (W := 0) (own_r2_23 l Z a0 hw [] r0 r1 r2 r3 r4 cl_r4 h5 n0 (Nat.le_trans Z0 K5.1) F5 ) hZ (hw _ (List.mem_of_getElem? (i := 13) rfl)) (hw _ (List.mem_of_getElem? (i := 12) rfl)) (by decide) (by decide)) (g := (mkF m 73 #[.val (.int i0), .val (.int i1), .val (.int (3 : Int32)), .val (.int (43 : Int32)), .val (.ref r0), .unset] [(.int (43 : Int32))])) rfl (by rw [hml]; rfl) (argsL := [(.int (43 : Int32))]) (rest := []) (lenOf own_pd0 rfl) rfl (by show 2 * 0 + _ ≤ _; exact Nat.le_of_eq rfl) (hb hby at_73) (fun _ _ => ⟨rfl, e7, (by decide : 1 + 0 ≤ _), (by decide : 4 + 0 ≤ _)⟩)
  dsimp only [Pt.U, Pt.locs, Pt.cells, Pt.slots] at X8 l8 y8 z8 st8 hQ8
  subst l8 y8 z8
  obtain ⟨rfl, N8q, e8⟩ := hQ8
  have N8 := Fr.app N7 N8q
  obtain ⟨fs, hr, hrun, hended, hW, hsame⟩ := X8.leave (v := some (.int (1 : Int32))) (fun h => by rw [Bd.returns] at h; cases h)
  refine ⟨_, _, pre0 _ ?_, hrun, hended, _, _, rfl, ?_, ⟨_, rfl⟩, hW, hsame.mono (by decide) (by decide)⟩
  · show Steps p.tables e below (s₁.setTop (mkF m 0 #[.val (.int i0), .val (.int i1), .unset, .unset, .unset, .unset] [])) _
    refine XS.iloadN X0.here hx rfl (hb hby at_0) rfl ?_
    show Steps p.tables e below (s₁.setTop (mkF m 1 #[.val (.int i0), .val (.int i1), .unset, .unset, .unset, .unset] [(.int i1)])) _
    refine XS.iconst X0.here hx rfl (hb hby at_1) ?_
    show Steps p.tables e below (s₁.setTop (mkF m 2 #[.val (.int i0), .val (.int i1), .unset, .unset, .unset, .unset] [(.int (3 : Int32)), (.int i1)])) _
    refine XS.iand X0.here hx rfl (hb hby at_2) rfl ?_
    show Steps p.tables e below (s₁.setTop (mkF m 3 #[.val (.int i0), .val (.int i1), .unset, .unset, .unset, .unset] [(.int (i1 &&& (3 : Int32)))])) _
    rw [hm]
    show Steps p.tables e below (s₁.setTop (mkF m 3 #[.val (.int i0), .val (.int i1), .unset, .unset, .unset, .unset] [(.int (3 : Int32))])) _
    refine XS.istoreN X0.here hx rfl (hb hby at_3) rfl (l' := #[.val (.int i0), .val (.int i1), .val (.int (3 : Int32)), .unset, .unset, .unset]) rfl ?_
    show Steps p.tables e below (s₁.setTop (mkF m 4 #[.val (.int i0), .val (.int i1), .val (.int (3 : Int32)), .unset, .unset, .unset] [])) _
    refine XS.iloadN X0.here hx rfl (hb hby at_4) rfl ?_
    show Steps p.tables e below (s₁.setTop (mkF m 5 #[.val (.int i0), .val (.int i1), .val (.int (3 : Int32)), .unset, .unset, .unset] [(.int (3 : Int32))])) _
    refine XS.ifYes X0.here hx rfl (pc0 := 5) (pc' := 17) rfl (hb hby at_5) rfl ((if0 _ _).trans (feq (by decide : ¬ ((3 : Int32) = (0 : Int32)))).2) (by decide) (by decide) ?_
    show Steps p.tables e below (s₁.setTop (mkF m 17 #[.val (.int i0), .val (.int i1), .val (.int (3 : Int32)), .unset, .unset, .unset] [])) _
    refine XS.iloadN X0.here hx rfl (hb hby at_17) rfl ?_
    show Steps p.tables e below (s₁.setTop (mkF m 18 #[.val (.int i0), .val (.int i1), .val (.int (3 : Int32)), .unset, .unset, .unset] [(.int (3 : Int32))])) _
    refine XS.iconst X0.here hx rfl (hb hby at_18) ?_
    show Steps p.tables e below (s₁.setTop (mkF m 19 #[.val (.int i0), .val (.int i1), .val (.int (3 : Int32)), .unset, .unset, .unset] [(.int (1 : Int32)), (.int (3 : Int32))])) _
    refine XS.icmpYes X0.here hx rfl (pc0 := 19) (pc' := 34) rfl (hb hby at_19) rfl (feq (by decide : ¬ ((3 : Int32) = (1 : Int32)))).2 (by decide) (by decide) ?_
    show Steps p.tables e below (s₁.setTop (mkF m 34 #[.val (.int i0), .val (.int i1), .val (.int (3 : Int32)), .unset, .unset, .unset] [])) _
    refine XS.iconst X0.here hx rfl (hb hby at_34) ?_
    show Steps p.tables e below (s₁.setTop (mkF m 35 #[.val (.int i0), .val (.int i1), .val (.int (3 : Int32)), .unset, .unset, .unset] [(.int (4 : Int32))])) _
    refine st1 _ ?_
    show Steps p.tables e below (T1.setTop (mkF m 37 #[.val (.int i0), .val (.int i1), .val (.int (3 : Int32)), .unset, .unset, .unset] [(.ref b1)])) _
    refine XS.dup X1.here hx rfl (hb hby at_37) rfl rfl ?_
    show Steps p.tables e below (T1.setTop (mkF m 38 #[.val (.int i0), .val (.int i1), .val (.int (3 : Int32)), .unset, .unset, .unset] [(.ref b1), (.ref b1)])) _
    refine XS.iconst X1.here hx rfl (hb hby at_38) ?_
    show Steps p.tables e below (T1.setTop (mkF m 39 #[.val (.int i0), .val (.int i1), .val (.int (3 : Int32)), .unset, .unset, .unset] [(.int (0 : Int32)), (.ref b1), (.ref b1)])) _
    refine XS.bipush X1.here hx rfl (hb hby at_39) ?_
    show Steps p.tables e below (T1.setTop (mkF m 41 #[.val (.int i0), .val (.int i1), .val (.int (3 : Int32)), .unset, .unset, .unset] [(.int (43 : Int32)), (.int (0 : Int32)), (.ref b1), (.ref b1)])) _
    refine st2 _ ?_
    show Steps p.tables e below (T2.setTop (mkF m 42 #[.val (.int i0), .val (.int i1), .val (.int (3 : Int32)), .unset, .unset, .unset] [(.ref b1)])) _
    refine XS.dup X2.here hx rfl (hb hby at_42) rfl rfl ?_
    show Steps p.tables e below (T2.setTop (mkF m 43 #[.val (.int i0), .val (.int i1), .val (.int (3 : Int32)), .unset, .unset, .unset] [(.ref b1), (.ref b1)])) _
    refine XS.iconst X2.here hx rfl (hb hby at_43) ?_
    show Steps p.tables e below (T2.setTop (mkF m 44 #[.val (.int i0), .val (.int i1), .val (.int (3 : Int32)), .unset, .unset, .unset] [(.int (1 : Int32)), (.ref b1), (.ref b1)])) _
    refine XS.bipush X2.here hx rfl (hb hby at_44) ?_
    show Steps p.tables e below (T2.setTop (mkF m 46 #[.val (.int i0), .val (.int i1), .val (.int (3 : Int32)), .unset, .unset, .unset] [(.int (45 : Int32)), (.int (1 : Int32)), (.ref b1), (.ref b1)])) _
    refine st3 _ ?_
    show Steps p.tables e below (T3.setTop (mkF m 47 #[.val (.int i0), .val (.int i1), .val (.int (3 : Int32)), .unset, .unset, .unset] [(.ref b1)])) _
    refine XS.dup X3.here hx rfl (hb hby at_47) rfl rfl ?_
    show Steps p.tables e below (T3.setTop (mkF m 48 #[.val (.int i0), .val (.int i1), .val (.int (3 : Int32)), .unset, .unset, .unset] [(.ref b1), (.ref b1)])) _
    refine XS.iconst X3.here hx rfl (hb hby at_48) ?_
    show Steps p.tables e below (T3.setTop (mkF m 49 #[.val (.int i0), .val (.int i1), .val (.int (3 : Int32)), .unset, .unset, .unset] [(.int (2 : Int32)), (.ref b1), (.ref b1)])) _
    refine XS.bipush X3.here hx rfl (hb hby at_49) ?_
    show Steps p.tables e below (T3.setTop (mkF m 51 #[.val (.int i0), .val (.int i1), .val (.int (3 : Int32)), .unset, .unset, .unset] [(.int (42 : Int32)), (.int (2 : Int32)), (.ref b1), (.ref b1)])) _
    refine st4 _ ?_
    show Steps p.tables e below (T4.setTop (mkF m 52 #[.val (.int i0), .val (.int i1), .val (.int (3 : Int32)), .unset, .unset, .unset] [(.ref b1)])) _
    refine XS.dup X4.here hx rfl (hb hby at_52) rfl rfl ?_
    show Steps p.tables e below (T4.setTop (mkF m 53 #[.val (.int i0), .val (.int i1), .val (.int (3 : Int32)), .unset, .unset, .unset] [(.ref b1), (.ref b1)])) _
    refine XS.iconst X4.here hx rfl (hb hby at_53) ?_
    show Steps p.tables e below (T4.setTop (mkF m 54 #[.val (.int i0), .val (.int i1), .val (.int (3 : Int32)), .unset, .unset, .unset] [(.int (3 : Int32)), (.ref b1), (.ref b1)])) _
    refine XS.bipush X4.here hx rfl (hb hby at_54) ?_
    show Steps p.tables e below (T4.setTop (mkF m 56 #[.val (.int i0), .val (.int i1), .val (.int (3 : Int32)), .unset, .unset, .unset] [(.int (47 : Int32)), (.int (3 : Int32)), (.ref b1), (.ref b1)])) _
    refine st5 _ ?_
    show Steps p.tables e below (T5.setTop (mkF m 57 #[.val (.int i0), .val (.int i1), .val (.int (3 : Int32)), .unset, .unset, .unset] [(.ref b1)])) _
    refine XS.astore X5.here hx rfl (hb hby at_57) rfl rfl (l' := #[.val (.int i0), .val (.int i1), .val (.int (3 : Int32)), .unset, .val (.ref b1), .unset]) rfl ?_
    show Steps p.tables e below (T5.setTop (mkF m 59 #[.val (.int i0), .val (.int i1), .val (.int (3 : Int32)), .unset, .val (.ref b1), .unset] [])) _
    refine XS.aload X5.here hx rfl (hb hby at_59) rfl rfl ?_
    show Steps p.tables e below (T5.setTop (mkF m 61 #[.val (.int i0), .val (.int i1), .val (.int (3 : Int32)), .unset, .val (.ref b1), .unset] [(.ref b1)])) _
    refine XS.iloadN X5.here hx rfl (hb hby at_61) rfl ?_
    show Steps p.tables e below (T5.setTop (mkF m 62 #[.val (.int i0), .val (.int i1), .val (.int (3 : Int32)), .unset, .val (.ref b1), .unset] [(.int i0), (.ref b1)])) _
    refine XS.iconst X5.here hx rfl (hb hby at_62) ?_
    show Steps p.tables e below (T5.setTop (mkF m 63 #[.val (.int i0), .val (.int i1), .val (.int (3 : Int32)), .unset, .val (.ref b1), .unset] [(.int (3 : Int32)), (.int i0), (.ref b1)])) _
    refine XS.iand X5.here hx rfl (hb hby at_63) rfl ?_
    show Steps p.tables e below (T5.setTop (mkF m 64 #[.val (.int i0), .val (.int i1), .val (.int (3 : Int32)), .unset, .val (.ref b1), .unset] [(.int (i0 &&& (3 : Int32))), (.ref b1)])) _
    rw [hj]
    show Steps p.tables e below (T5.setTop (mkF m 64 #[.val (.int i0), .val (.int i1), .val (.int (3 : Int32)), .unset, .val (.ref b1), .unset] [(.int (0 : Int32)), (.ref b1)])) _
    refine X5.caload hx (j := (0 : Int32)) (v := (.int (43 : Int32))) (by rw [e5]; exact Ar_6.1) (State.isArrayOf_alike hZ.alike Ar_6.2.1) Ar_6.2.2 hin6 hat6 (g := (mkF m 64 #[.val (.int i0), .val (.int i1), .val (.int (3 : Int32)), .unset, .val (.ref b1), .unset] [(.int (0 : Int32)), (.ref b1)])) rfl rfl (hb hby at_64) _ ?_
    show Steps p.tables e below (T5.setTop (mkF m 65 #[.val (.int i0), .val (.int i1), .val (.int (3 : Int32)), .unset, .val (.ref b1), .unset] [(.int (43 : Int32))])) _
    refine XS.istoreN X5.here hx rfl (hb hby at_65) rfl (l' := #[.val (.int i0), .val (.int i1), .val (.int (3 : Int32)), .val (.int (43 : Int32)), .val (.ref b1), .unset]) rfl ?_
    show Steps p.tables e below (T5.setTop (mkF m 66 #[.val (.int i0), .val (.int i1), .val (.int (3 : Int32)), .val (.int (43 : Int32)), .val (.ref b1), .unset] [])) _
    refine XS.iloadN X5.here hx rfl (hb hby at_66) rfl ?_
    show Steps p.tables e below (T5.setTop (mkF m 67 #[.val (.int i0), .val (.int i1), .val (.int (3 : Int32)), .val (.int (43 : Int32)), .val (.ref b1), .unset] [(.int (43 : Int32))])) _
    refine st7 _ ?_
    show Steps p.tables e below (T7.setTop (mkF m 70 #[.val (.int i0), .val (.int i1), .val (.int (3 : Int32)), .val (.int (43 : Int32)), .val (.ref b1), .unset] [(.ref r0)])) _
    refine XS.astore X7.here hx rfl (hb hby at_70) rfl rfl (l' := #[.val (.int i0), .val (.int i1), .val (.int (3 : Int32)), .val (.int (43 : Int32)), .val (.ref r0), .unset]) rfl ?_
    show Steps p.tables e below (T7.setTop (mkF m 72 #[.val (.int i0), .val (.int i1), .val (.int (3 : Int32)), .val (.int (43 : Int32)), .val (.ref r0), .unset] [])) _
    refine XS.iloadN X7.here hx rfl (hb hby at_72) rfl ?_
    show Steps p.tables e below (T7.setTop (mkF m 73 #[.val (.int i0), .val (.int i1), .val (.int (3 : Int32)), .val (.int (43 : Int32)), .val (.ref r0), .unset] [(.int (43 : Int32))])) _
    refine st8 _ ?_
    show Steps p.tables e below (T8.setTop (mkF m 76 #[.val (.int i0), .val (.int i1), .val (.int (3 : Int32)), .val (.int (43 : Int32)), .val (.ref r0), .unset] [(.ref r0)])) _
    refine XS.astore X8.here hx rfl (hb hby at_76) rfl rfl (l' := #[.val (.int i0), .val (.int i1), .val (.int (3 : Int32)), .val (.int (43 : Int32)), .val (.ref r0), .val (.ref r0)]) rfl ?_
    show Steps p.tables e below (T8.setTop (mkF m 78 #[.val (.int i0), .val (.int i1), .val (.int (3 : Int32)), .val (.int (43 : Int32)), .val (.ref r0), .val (.ref r0)] [])) _
    refine XS.aload X8.here hx rfl (hb hby at_78) rfl rfl ?_
    show Steps p.tables e below (T8.setTop (mkF m 80 #[.val (.int i0), .val (.int i1), .val (.int (3 : Int32)), .val (.int (43 : Int32)), .val (.ref r0), .val (.ref r0)] [(.ref r0)])) _
    refine XS.aload X8.here hx rfl (hb hby at_80) rfl rfl ?_
    show Steps p.tables e below (T8.setTop (mkF m 82 #[.val (.int i0), .val (.int i1), .val (.int (3 : Int32)), .val (.int (43 : Int32)), .val (.ref r0), .val (.ref r0)] [(.ref r0), (.ref r0)])) _
    refine Jvm.RoadKit.acmp (g := (mkF m 82 #[.val (.int i0), .val (.int i1), .val (.int (3 : Int32)), .val (.int (43 : Int32)), .val (.ref r0), .val (.ref r0)] [(.ref r0), (.ref r0)])) X8 hx rfl rfl rfl (pc0 := 82) (pc' := 85) (same := true) rfl (hb hby at_82) rfl (decide_eq_true rfl) (by decide) (by decide) ?_
    show Steps p.tables e below (T8.setTop (mkF m 85 #[.val (.int i0), .val (.int i1), .val (.int (3 : Int32)), .val (.int (43 : Int32)), .val (.ref r0), .val (.ref r0)] [])) _
    refine XS.iconst X8.here hx rfl (hb hby at_85) ?_
    show Steps p.tables e below (T8.setTop (mkF m 86 #[.val (.int i0), .val (.int i1), .val (.int (3 : Int32)), .val (.int (43 : Int32)), .val (.ref r0), .val (.ref r0)] [(.int (1 : Int32))])) _
    refine XS.goto X8.here hx rfl (pc0 := 86) (pc' := 90) rfl (hb hby at_86) (by decide) (by decide) ?_
    show Steps p.tables e below (T8.setTop (mkF m 90 #[.val (.int i0), .val (.int i1), .val (.int (3 : Int32)), .val (.int (43 : Int32)), .val (.ref r0), .val (.ref r0)] [(.int (1 : Int32))])) _
    exact retN X8 hx (t := .boolean) Bd.returns (by simp) (hb hby at_90) hr
  · exact ⟨rfl, N8⟩
set_option maxRecDepth 65536 in
set_option maxHeartbeats 40000000 in
theorem own_r0_m3j1 (l : Launch) (Z : State) (a0 : Array Value) (hw : ∀ d ∈ tables_1, d.before a0 Z = true) (ws : List Jvm.Cond) (r0 : Addr) (r1 : Addr) (r2 : Addr) (r3 : Addr) (r4 : Addr) (cl_r4 : Cell) (h0 : Heap) (n0 : Nat) (Z0 : n0 ≤ h0.size) (F : own_W Z h0 r0 r1 r2 r3 r4 cl_r4) (i0 : Int32) (i1 : Int32) (hm : (i1 &&& (3 : Int32)) = (3 : Int32)) (hj : (i0 &&& (3 : Int32)) = (1 : Int32)) :
    MetFree l x (head1 (Jvm.Cond.code x code maxLocals ret :: ws) room_1) (fun a U => a = #[(.int i0), (.int i1)] ∧ Z.Warmed39 U.vm ∧ U.heap = h0) (fun _ _ _ _ _ => True) (fun _ U o U' => ∃ v L, o = .returned v ∧ own_Q0 (.int (1 : Int32)) n0 v U'.heap L ∧ FrameEnd U o U' L room_1.cells room_1.slots) := by
  obtain ⟨S_r0, E_r0, S_r1, E_r1, S_r2, E_r2, S_r3, E_r3, S_r4, Ar_r4, Sz_r4, El_r4_0, F_r0_symbol, El_r4_1, F_r1_symbol, El_r4_2, F_r2_symbol, El_r4_3, F_r3_symbol, ne_r0_r1, ne_r0_r2, ne_r0_r3, ne_r1_r2, ne_r1_r3, ne_r2_r3⟩ := id F
  refine MetFree.of_bodySF (plainFor_of_name own_pn_OperatorBySymbolPinLaw) hisR ?_
  intro p e s m args below meth c s₁ Bd hml0 hP hK
  obtain ⟨rfl, hZ, hh⟩ := hP
  have hx := Bd.exec
  have hby := Bd.bytes
  have hml : c.maxLocals = 6 := hml0
  have hown : s.vm.findClass "dragoman/OperatorBySymbolPinLaw" = some m.cls := findClass_of_methodNamed Bd.named
  have X0 : Stand p l e room_1 s m #[(.int i0), (.int i1)] below meth c s₁ [] 0 0 := Stand.of_body Bd
  have e0 : s₁.heap = h0 := by rw [← hh, Bd.state]; rfl
  have N0 := Fr.nil n0
  have pre0 : ∀ t, Steps p.tables e below (s₁.setTop (mkF m 0 #[.val (.int i0), .val (.int i1), .unset, .unset, .unset, .unset] [])) t → Steps p.tables e below (s₁.setTop (entryFrame m #[(.int i0), (.int i1)] maxLocals)) t := fun t k => castTop (own_ef0_II m i0 i1) k
  obtain ⟨T1, h1, k1, X1, e1, E1, A1, st1⟩ := newP X0 hx hZ (hw _ (List.mem_of_getElem? (i := 0) rfl)) e0 (g := (mkF m 35 #[.val (.int i0), .val (.int i1), .val (.int (3 : Int32)), .unset, .unset, .unset] [(.int (4 : Int32))])) rfl (hb hby at_35) rfl (by decide) (cap := 4) (by decide) (by decide) (by decide) (by decide)
  obtain ⟨b1, g1⟩ : ∃ z, z = h0.size := ⟨_, rfl⟩
  rw [← g1] at A1 st1
  have V_1 : Arv Z h1 b1 k1 .char (4 : Int32) [(.int (0 : Int32)), (.int (0 : Int32)), (.int (0 : Int32)), (.int (0 : Int32))] (.int (0 : Int32)) := (Arv.new A1 (by decide)).pad (pad_rep [] (.int (0 : Int32)) 4)
  have g_b1 : n0 ≤ b1 := Nat.le_trans Z0 (Nat.le_of_eq g1.symm)
  have sz_b1 : h0.size ≤ b1 := Nat.le_trans (Keep.refl h0 []).1 (Nat.le_of_eq g1.symm)
  have K1 : Keep h0 h1 [] := (Keep.refl h0 []).ext E1
  have F1 : own_W Z h1 r0 r1 r2 r3 r4 cl_r4 := own_W_ext ⟨K1.1, fun a c q => K1.2.1 a c q (by simp)⟩ F
  obtain ⟨cl_2, Ar_2, q_2, S_2, N_2, H_2, G_2⟩ := V_1
  obtain ⟨T2, h2, X2, e2, W2, st2⟩ := stC X1 hx hZ e1 Ar_2 (j := (0 : Int32)) (inb_of S_2 ⟨by decide, by decide⟩) (g := (mkF m 41 #[.val (.int i0), .val (.int i1), .val (.int (3 : Int32)), .unset, .unset, .unset] [(.int (43 : Int32)), (.int (0 : Int32)), (.ref b1), (.ref b1)])) rfl rfl (hb hby at_41)
  have V_2 := Arv.set Ar_2 q_2 S_2 N_2 H_2 G_2 (fits_nar_char _) W2 0 rfl (Nat.le_of_ble_eq_true rfl)
  have K2 : Keep h0 h2 [] := K1.wr W2 (Or.inr sz_b1)
  have N2 := Fr.snoc X2 N0 g_b1
  have F2 : own_W Z h2 r0 r1 r2 r3 r4 cl_r4 := own_W_ext ⟨K2.1, fun a c q => K2.2.1 a c q (by simp)⟩ F
  obtain ⟨cl_3, Ar_3, q_3, S_3, N_3, H_3, G_3⟩ := V_2
  obtain ⟨T3, h3, X3, e3, W3, st3⟩ := stC X2 hx hZ e2 Ar_3 (j := (1 : Int32)) (inb_of S_3 ⟨by decide, by decide⟩) (g := (mkF m 46 #[.val (.int i0), .val (.int i1), .val (.int (3 : Int32)), .unset, .unset, .unset] [(.int (45 : Int32)), (.int (1 : Int32)), (.ref b1), (.ref b1)])) rfl rfl (hb hby at_46)
  have V_3 := Arv.set Ar_3 q_3 S_3 N_3 H_3 G_3 (fits_nar_char _) W3 1 rfl (Nat.le_of_ble_eq_true rfl)
  have K3 : Keep h0 h3 [] := K2.wr W3 (Or.inr sz_b1)
  have N3 := Fr.snoc X3 N2 g_b1
  have F3 : own_W Z h3 r0 r1 r2 r3 r4 cl_r4 := own_W_ext ⟨K3.1, fun a c q => K3.2.1 a c q (by simp)⟩ F
  obtain ⟨cl_4, Ar_4, q_4, S_4, N_4, H_4, G_4⟩ := V_3
  obtain ⟨T4, h4, X4, e4, W4, st4⟩ := stC X3 hx hZ e3 Ar_4 (j := (2 : Int32)) (inb_of S_4 ⟨by decide, by decide⟩) (g := (mkF m 51 #[.val (.int i0), .val (.int i1), .val (.int (3 : Int32)), .unset, .unset, .unset] [(.int (42 : Int32)), (.int (2 : Int32)), (.ref b1), (.ref b1)])) rfl rfl (hb hby at_51)
  have V_4 := Arv.set Ar_4 q_4 S_4 N_4 H_4 G_4 (fits_nar_char _) W4 2 rfl (Nat.le_of_ble_eq_true rfl)
  have K4 : Keep h0 h4 [] := K3.wr W4 (Or.inr sz_b1)
  have N4 := Fr.snoc X4 N3 g_b1
  have F4 : own_W Z h4 r0 r1 r2 r3 r4 cl_r4 := own_W_ext ⟨K4.1, fun a c q => K4.2.1 a c q (by simp)⟩ F
  obtain ⟨cl_5, Ar_5, q_5, S_5, N_5, H_5, G_5⟩ := V_4
  obtain ⟨T5, h5, X5, e5, W5, st5⟩ := stC X4 hx hZ e4 Ar_5 (j := (3 : Int32)) (inb_of S_5 ⟨by decide, by decide⟩) (g := (mkF m 56 #[.val (.int i0), .val (.int i1), .val (.int (3 : Int32)), .unset, .unset, .unset] [(.int (47 : Int32)), (.int (3 : Int32)), (.ref b1), (.ref b1)])) rfl rfl (hb hby at_56)
  have V_5 := Arv.set Ar_5 q_5 S_5 N_5 H_5 G_5 (fits_nar_char _) W5 3 rfl (Nat.le_of_ble_eq_true rfl)
  have K5 : Keep h0 h5 [] := K4.wr W5 (Or.inr sz_b1)
  have N5 := Fr.snoc X5 N4 g_b1
  have F5 : own_W Z h5 r0 r1 r2 r3 r4 cl_r4 := own_W_ext ⟨K5.1, fun a c q => K5.2.1 a c q (by simp)⟩ F
  obtain ⟨cl_6, Ar_6, q_6, S_6, N_6, H_6, G_6⟩ := id V_5
  have hin6 : ¬ ((1 : Int32) < 0 ∨ cl_6.slots.size ≤ ((1 : Int32)).toNatClampNeg) := inb_of S_6 ⟨by decide, by decide⟩
  have hat6 : cl_6.slots[((1 : Int32)).toNatClampNeg]? = some (.int (45 : Int32)) := Has.at H_6 hin6 rfl
  obtain ⟨_, _, ⟨T7, L7, k7, n7⟩, -, X7, ⟨Lc7, hQ7, l7, y7, z7⟩, st7⟩ := Jvm.LawKit.callS X5 hx (y := (⟨"dragoman/Operator", "bySymbol", "(C)Ldragoman/Operator;"⟩ : MethodName)) hown (mvT hZ (hw _ (List.mem_of_getElem? (i := 1) rfl))) (mvT hZ (hw _ (List.mem_of_getElem? (i := 2) rfl))) (mvT hZ (hw _ (List.mem_of_getElem? (i := 3) rfl))) (mvT hZ (hw _ (List.mem_of_getElem? (i := 4) rfl))) (by decide) (backOf (W := 0) (own_r1_25 l Z a0 hw [] r0 r1 r2 r3 r4 cl_r4 h5 n0 (Nat.le_trans Z0 K5.1) F5 ) hZ (hw _ (List.mem_of_getElem? (i := 4) rfl)) (hw _ (List.mem_of_getElem? (i := 3) rfl)) (by decide) (by decide)) (g := (mkF m 67 #[.val (.int i0), .val (.int i1), .val (.int (3 : Int32)), .val (.int (45 : Int32)), .val (.ref b1), .unset] [(.int (45 : Int32))])) rfl (by rw [hml]; rfl) (argsL := [(.int (45 : Int32))]) (rest := []) (lenOf own_pd0 rfl) rfl (by show 2 * 0 + _ ≤ _; exact Nat.le_of_eq rfl) (hb hby at_67) (fun _ _ => ⟨rfl, e5, (by decide : 1 + 0 ≤ _), (by decide : 4 + 0 ≤ _)⟩)
  dsimp only [Pt.U, Pt.locs, Pt.cells, Pt.slots] at X7 l7 y7 z7 st7 hQ7
  subst l7 y7 z7
  obtain ⟨rfl, N7q, e7⟩ := hQ7
  have N7 := Fr.app N5 N7q
  obtain ⟨_, _, ⟨T8, L8, k8, n8⟩, -, X8, ⟨Lc8, hQ8, l8, y8, z8⟩, st8⟩ := Jvm.LawKit.callS X7 hx (y := (⟨"dragoman/OperatorBySymbolPinLaw", "expected", "(C)Ldragoman/Operator;"⟩ : MethodName)) hown (mvT hZ (hw _ (List.mem_of_getElem? (i := 10) rfl))) (mvT hZ (hw _ (List.mem_of_getElem? (i := 11) rfl))) (mvT hZ (hw _ (List.mem_of_getElem? (i := 12) rfl))) (mvT hZ (hw _ (List.mem_of_getElem? (i := 13) rfl))) (by decide) (backOf (W := 0) (own_r2_26 l Z a0 hw [] r0 r1 r2 r3 r4 cl_r4 h5 n0 (Nat.le_trans Z0 K5.1) F5 ) hZ (hw _ (List.mem_of_getElem? (i := 13) rfl)) (hw _ (List.mem_of_getElem? (i := 12) rfl)) (by decide) (by decide)) (g := (mkF m 73 #[.val (.int i0), .val (.int i1), .val (.int (3 : Int32)), .val (.int (45 : Int32)), .val (.ref r1), .unset] [(.int (45 : Int32))])) rfl (by rw [hml]; rfl) (argsL := [(.int (45 : Int32))]) (rest := []) (lenOf own_pd0 rfl) rfl (by show 2 * 0 + _ ≤ _; exact Nat.le_of_eq rfl) (hb hby at_73) (fun _ _ => ⟨rfl, e7, (by decide : 1 + 0 ≤ _), (by decide : 4 + 0 ≤ _)⟩)
  dsimp only [Pt.U, Pt.locs, Pt.cells, Pt.slots] at X8 l8 y8 z8 st8 hQ8
  subst l8 y8 z8
  obtain ⟨rfl, N8q, e8⟩ := hQ8
  have N8 := Fr.app N7 N8q
  obtain ⟨fs, hr, hrun, hended, hW, hsame⟩ := X8.leave (v := some (.int (1 : Int32))) (fun h => by rw [Bd.returns] at h; cases h)
  refine ⟨_, _, pre0 _ ?_, hrun, hended, _, _, rfl, ?_, ⟨_, rfl⟩, hW, hsame.mono (by decide) (by decide)⟩
  · show Steps p.tables e below (s₁.setTop (mkF m 0 #[.val (.int i0), .val (.int i1), .unset, .unset, .unset, .unset] [])) _
    refine XS.iloadN X0.here hx rfl (hb hby at_0) rfl ?_
    show Steps p.tables e below (s₁.setTop (mkF m 1 #[.val (.int i0), .val (.int i1), .unset, .unset, .unset, .unset] [(.int i1)])) _
    refine XS.iconst X0.here hx rfl (hb hby at_1) ?_
    show Steps p.tables e below (s₁.setTop (mkF m 2 #[.val (.int i0), .val (.int i1), .unset, .unset, .unset, .unset] [(.int (3 : Int32)), (.int i1)])) _
    refine XS.iand X0.here hx rfl (hb hby at_2) rfl ?_
    show Steps p.tables e below (s₁.setTop (mkF m 3 #[.val (.int i0), .val (.int i1), .unset, .unset, .unset, .unset] [(.int (i1 &&& (3 : Int32)))])) _
    rw [hm]
    show Steps p.tables e below (s₁.setTop (mkF m 3 #[.val (.int i0), .val (.int i1), .unset, .unset, .unset, .unset] [(.int (3 : Int32))])) _
    refine XS.istoreN X0.here hx rfl (hb hby at_3) rfl (l' := #[.val (.int i0), .val (.int i1), .val (.int (3 : Int32)), .unset, .unset, .unset]) rfl ?_
    show Steps p.tables e below (s₁.setTop (mkF m 4 #[.val (.int i0), .val (.int i1), .val (.int (3 : Int32)), .unset, .unset, .unset] [])) _
    refine XS.iloadN X0.here hx rfl (hb hby at_4) rfl ?_
    show Steps p.tables e below (s₁.setTop (mkF m 5 #[.val (.int i0), .val (.int i1), .val (.int (3 : Int32)), .unset, .unset, .unset] [(.int (3 : Int32))])) _
    refine XS.ifYes X0.here hx rfl (pc0 := 5) (pc' := 17) rfl (hb hby at_5) rfl ((if0 _ _).trans (feq (by decide : ¬ ((3 : Int32) = (0 : Int32)))).2) (by decide) (by decide) ?_
    show Steps p.tables e below (s₁.setTop (mkF m 17 #[.val (.int i0), .val (.int i1), .val (.int (3 : Int32)), .unset, .unset, .unset] [])) _
    refine XS.iloadN X0.here hx rfl (hb hby at_17) rfl ?_
    show Steps p.tables e below (s₁.setTop (mkF m 18 #[.val (.int i0), .val (.int i1), .val (.int (3 : Int32)), .unset, .unset, .unset] [(.int (3 : Int32))])) _
    refine XS.iconst X0.here hx rfl (hb hby at_18) ?_
    show Steps p.tables e below (s₁.setTop (mkF m 19 #[.val (.int i0), .val (.int i1), .val (.int (3 : Int32)), .unset, .unset, .unset] [(.int (1 : Int32)), (.int (3 : Int32))])) _
    refine XS.icmpYes X0.here hx rfl (pc0 := 19) (pc' := 34) rfl (hb hby at_19) rfl (feq (by decide : ¬ ((3 : Int32) = (1 : Int32)))).2 (by decide) (by decide) ?_
    show Steps p.tables e below (s₁.setTop (mkF m 34 #[.val (.int i0), .val (.int i1), .val (.int (3 : Int32)), .unset, .unset, .unset] [])) _
    refine XS.iconst X0.here hx rfl (hb hby at_34) ?_
    show Steps p.tables e below (s₁.setTop (mkF m 35 #[.val (.int i0), .val (.int i1), .val (.int (3 : Int32)), .unset, .unset, .unset] [(.int (4 : Int32))])) _
    refine st1 _ ?_
    show Steps p.tables e below (T1.setTop (mkF m 37 #[.val (.int i0), .val (.int i1), .val (.int (3 : Int32)), .unset, .unset, .unset] [(.ref b1)])) _
    refine XS.dup X1.here hx rfl (hb hby at_37) rfl rfl ?_
    show Steps p.tables e below (T1.setTop (mkF m 38 #[.val (.int i0), .val (.int i1), .val (.int (3 : Int32)), .unset, .unset, .unset] [(.ref b1), (.ref b1)])) _
    refine XS.iconst X1.here hx rfl (hb hby at_38) ?_
    show Steps p.tables e below (T1.setTop (mkF m 39 #[.val (.int i0), .val (.int i1), .val (.int (3 : Int32)), .unset, .unset, .unset] [(.int (0 : Int32)), (.ref b1), (.ref b1)])) _
    refine XS.bipush X1.here hx rfl (hb hby at_39) ?_
    show Steps p.tables e below (T1.setTop (mkF m 41 #[.val (.int i0), .val (.int i1), .val (.int (3 : Int32)), .unset, .unset, .unset] [(.int (43 : Int32)), (.int (0 : Int32)), (.ref b1), (.ref b1)])) _
    refine st2 _ ?_
    show Steps p.tables e below (T2.setTop (mkF m 42 #[.val (.int i0), .val (.int i1), .val (.int (3 : Int32)), .unset, .unset, .unset] [(.ref b1)])) _
    refine XS.dup X2.here hx rfl (hb hby at_42) rfl rfl ?_
    show Steps p.tables e below (T2.setTop (mkF m 43 #[.val (.int i0), .val (.int i1), .val (.int (3 : Int32)), .unset, .unset, .unset] [(.ref b1), (.ref b1)])) _
    refine XS.iconst X2.here hx rfl (hb hby at_43) ?_
    show Steps p.tables e below (T2.setTop (mkF m 44 #[.val (.int i0), .val (.int i1), .val (.int (3 : Int32)), .unset, .unset, .unset] [(.int (1 : Int32)), (.ref b1), (.ref b1)])) _
    refine XS.bipush X2.here hx rfl (hb hby at_44) ?_
    show Steps p.tables e below (T2.setTop (mkF m 46 #[.val (.int i0), .val (.int i1), .val (.int (3 : Int32)), .unset, .unset, .unset] [(.int (45 : Int32)), (.int (1 : Int32)), (.ref b1), (.ref b1)])) _
    refine st3 _ ?_
    show Steps p.tables e below (T3.setTop (mkF m 47 #[.val (.int i0), .val (.int i1), .val (.int (3 : Int32)), .unset, .unset, .unset] [(.ref b1)])) _
    refine XS.dup X3.here hx rfl (hb hby at_47) rfl rfl ?_
    show Steps p.tables e below (T3.setTop (mkF m 48 #[.val (.int i0), .val (.int i1), .val (.int (3 : Int32)), .unset, .unset, .unset] [(.ref b1), (.ref b1)])) _
    refine XS.iconst X3.here hx rfl (hb hby at_48) ?_
    show Steps p.tables e below (T3.setTop (mkF m 49 #[.val (.int i0), .val (.int i1), .val (.int (3 : Int32)), .unset, .unset, .unset] [(.int (2 : Int32)), (.ref b1), (.ref b1)])) _
    refine XS.bipush X3.here hx rfl (hb hby at_49) ?_
    show Steps p.tables e below (T3.setTop (mkF m 51 #[.val (.int i0), .val (.int i1), .val (.int (3 : Int32)), .unset, .unset, .unset] [(.int (42 : Int32)), (.int (2 : Int32)), (.ref b1), (.ref b1)])) _
    refine st4 _ ?_
    show Steps p.tables e below (T4.setTop (mkF m 52 #[.val (.int i0), .val (.int i1), .val (.int (3 : Int32)), .unset, .unset, .unset] [(.ref b1)])) _
    refine XS.dup X4.here hx rfl (hb hby at_52) rfl rfl ?_
    show Steps p.tables e below (T4.setTop (mkF m 53 #[.val (.int i0), .val (.int i1), .val (.int (3 : Int32)), .unset, .unset, .unset] [(.ref b1), (.ref b1)])) _
    refine XS.iconst X4.here hx rfl (hb hby at_53) ?_
    show Steps p.tables e below (T4.setTop (mkF m 54 #[.val (.int i0), .val (.int i1), .val (.int (3 : Int32)), .unset, .unset, .unset] [(.int (3 : Int32)), (.ref b1), (.ref b1)])) _
    refine XS.bipush X4.here hx rfl (hb hby at_54) ?_
    show Steps p.tables e below (T4.setTop (mkF m 56 #[.val (.int i0), .val (.int i1), .val (.int (3 : Int32)), .unset, .unset, .unset] [(.int (47 : Int32)), (.int (3 : Int32)), (.ref b1), (.ref b1)])) _
    refine st5 _ ?_
    show Steps p.tables e below (T5.setTop (mkF m 57 #[.val (.int i0), .val (.int i1), .val (.int (3 : Int32)), .unset, .unset, .unset] [(.ref b1)])) _
    refine XS.astore X5.here hx rfl (hb hby at_57) rfl rfl (l' := #[.val (.int i0), .val (.int i1), .val (.int (3 : Int32)), .unset, .val (.ref b1), .unset]) rfl ?_
    show Steps p.tables e below (T5.setTop (mkF m 59 #[.val (.int i0), .val (.int i1), .val (.int (3 : Int32)), .unset, .val (.ref b1), .unset] [])) _
    refine XS.aload X5.here hx rfl (hb hby at_59) rfl rfl ?_
    show Steps p.tables e below (T5.setTop (mkF m 61 #[.val (.int i0), .val (.int i1), .val (.int (3 : Int32)), .unset, .val (.ref b1), .unset] [(.ref b1)])) _
    refine XS.iloadN X5.here hx rfl (hb hby at_61) rfl ?_
    show Steps p.tables e below (T5.setTop (mkF m 62 #[.val (.int i0), .val (.int i1), .val (.int (3 : Int32)), .unset, .val (.ref b1), .unset] [(.int i0), (.ref b1)])) _
    refine XS.iconst X5.here hx rfl (hb hby at_62) ?_
    show Steps p.tables e below (T5.setTop (mkF m 63 #[.val (.int i0), .val (.int i1), .val (.int (3 : Int32)), .unset, .val (.ref b1), .unset] [(.int (3 : Int32)), (.int i0), (.ref b1)])) _
    refine XS.iand X5.here hx rfl (hb hby at_63) rfl ?_
    show Steps p.tables e below (T5.setTop (mkF m 64 #[.val (.int i0), .val (.int i1), .val (.int (3 : Int32)), .unset, .val (.ref b1), .unset] [(.int (i0 &&& (3 : Int32))), (.ref b1)])) _
    rw [hj]
    show Steps p.tables e below (T5.setTop (mkF m 64 #[.val (.int i0), .val (.int i1), .val (.int (3 : Int32)), .unset, .val (.ref b1), .unset] [(.int (1 : Int32)), (.ref b1)])) _
    refine X5.caload hx (j := (1 : Int32)) (v := (.int (45 : Int32))) (by rw [e5]; exact Ar_6.1) (State.isArrayOf_alike hZ.alike Ar_6.2.1) Ar_6.2.2 hin6 hat6 (g := (mkF m 64 #[.val (.int i0), .val (.int i1), .val (.int (3 : Int32)), .unset, .val (.ref b1), .unset] [(.int (1 : Int32)), (.ref b1)])) rfl rfl (hb hby at_64) _ ?_
    show Steps p.tables e below (T5.setTop (mkF m 65 #[.val (.int i0), .val (.int i1), .val (.int (3 : Int32)), .unset, .val (.ref b1), .unset] [(.int (45 : Int32))])) _
    refine XS.istoreN X5.here hx rfl (hb hby at_65) rfl (l' := #[.val (.int i0), .val (.int i1), .val (.int (3 : Int32)), .val (.int (45 : Int32)), .val (.ref b1), .unset]) rfl ?_
    show Steps p.tables e below (T5.setTop (mkF m 66 #[.val (.int i0), .val (.int i1), .val (.int (3 : Int32)), .val (.int (45 : Int32)), .val (.ref b1), .unset] [])) _
    refine XS.iloadN X5.here hx rfl (hb hby at_66) rfl ?_
    show Steps p.tables e below (T5.setTop (mkF m 67 #[.val (.int i0), .val (.int i1), .val (.int (3 : Int32)), .val (.int (45 : Int32)), .val (.ref b1), .unset] [(.int (45 : Int32))])) _
    refine st7 _ ?_
    show Steps p.tables e below (T7.setTop (mkF m 70 #[.val (.int i0), .val (.int i1), .val (.int (3 : Int32)), .val (.int (45 : Int32)), .val (.ref b1), .unset] [(.ref r1)])) _
    refine XS.astore X7.here hx rfl (hb hby at_70) rfl rfl (l' := #[.val (.int i0), .val (.int i1), .val (.int (3 : Int32)), .val (.int (45 : Int32)), .val (.ref r1), .unset]) rfl ?_
    show Steps p.tables e below (T7.setTop (mkF m 72 #[.val (.int i0), .val (.int i1), .val (.int (3 : Int32)), .val (.int (45 : Int32)), .val (.ref r1), .unset] [])) _
    refine XS.iloadN X7.here hx rfl (hb hby at_72) rfl ?_
    show Steps p.tables e below (T7.setTop (mkF m 73 #[.val (.int i0), .val (.int i1), .val (.int (3 : Int32)), .val (.int (45 : Int32)), .val (.ref r1), .unset] [(.int (45 : Int32))])) _
    refine st8 _ ?_
    show Steps p.tables e below (T8.setTop (mkF m 76 #[.val (.int i0), .val (.int i1), .val (.int (3 : Int32)), .val (.int (45 : Int32)), .val (.ref r1), .unset] [(.ref r1)])) _
    refine XS.astore X8.here hx rfl (hb hby at_76) rfl rfl (l' := #[.val (.int i0), .val (.int i1), .val (.int (3 : Int32)), .val (.int (45 : Int32)), .val (.ref r1), .val (.ref r1)]) rfl ?_
    show Steps p.tables e below (T8.setTop (mkF m 78 #[.val (.int i0), .val (.int i1), .val (.int (3 : Int32)), .val (.int (45 : Int32)), .val (.ref r1), .val (.ref r1)] [])) _
    refine XS.aload X8.here hx rfl (hb hby at_78) rfl rfl ?_
    show Steps p.tables e below (T8.setTop (mkF m 80 #[.val (.int i0), .val (.int i1), .val (.int (3 : Int32)), .val (.int (45 : Int32)), .val (.ref r1), .val (.ref r1)] [(.ref r1)])) _
    refine XS.aload X8.here hx rfl (hb hby at_80) rfl rfl ?_
    show Steps p.tables e below (T8.setTop (mkF m 82 #[.val (.int i0), .val (.int i1), .val (.int (3 : Int32)), .val (.int (45 : Int32)), .val (.ref r1), .val (.ref r1)] [(.ref r1), (.ref r1)])) _
    refine Jvm.RoadKit.acmp (g := (mkF m 82 #[.val (.int i0), .val (.int i1), .val (.int (3 : Int32)), .val (.int (45 : Int32)), .val (.ref r1), .val (.ref r1)] [(.ref r1), (.ref r1)])) X8 hx rfl rfl rfl (pc0 := 82) (pc' := 85) (same := true) rfl (hb hby at_82) rfl (decide_eq_true rfl) (by decide) (by decide) ?_
    show Steps p.tables e below (T8.setTop (mkF m 85 #[.val (.int i0), .val (.int i1), .val (.int (3 : Int32)), .val (.int (45 : Int32)), .val (.ref r1), .val (.ref r1)] [])) _
    refine XS.iconst X8.here hx rfl (hb hby at_85) ?_
    show Steps p.tables e below (T8.setTop (mkF m 86 #[.val (.int i0), .val (.int i1), .val (.int (3 : Int32)), .val (.int (45 : Int32)), .val (.ref r1), .val (.ref r1)] [(.int (1 : Int32))])) _
    refine XS.goto X8.here hx rfl (pc0 := 86) (pc' := 90) rfl (hb hby at_86) (by decide) (by decide) ?_
    show Steps p.tables e below (T8.setTop (mkF m 90 #[.val (.int i0), .val (.int i1), .val (.int (3 : Int32)), .val (.int (45 : Int32)), .val (.ref r1), .val (.ref r1)] [(.int (1 : Int32))])) _
    exact retN X8 hx (t := .boolean) Bd.returns (by simp) (hb hby at_90) hr
  · exact ⟨rfl, N8⟩
set_option maxRecDepth 65536 in
set_option maxHeartbeats 40000000 in
theorem own_r0_m3j2 (l : Launch) (Z : State) (a0 : Array Value) (hw : ∀ d ∈ tables_1, d.before a0 Z = true) (ws : List Jvm.Cond) (r0 : Addr) (r1 : Addr) (r2 : Addr) (r3 : Addr) (r4 : Addr) (cl_r4 : Cell) (h0 : Heap) (n0 : Nat) (Z0 : n0 ≤ h0.size) (F : own_W Z h0 r0 r1 r2 r3 r4 cl_r4) (i0 : Int32) (i1 : Int32) (hm : (i1 &&& (3 : Int32)) = (3 : Int32)) (hj : (i0 &&& (3 : Int32)) = (2 : Int32)) :
    MetFree l x (head1 (Jvm.Cond.code x code maxLocals ret :: ws) room_1) (fun a U => a = #[(.int i0), (.int i1)] ∧ Z.Warmed39 U.vm ∧ U.heap = h0) (fun _ _ _ _ _ => True) (fun _ U o U' => ∃ v L, o = .returned v ∧ own_Q0 (.int (1 : Int32)) n0 v U'.heap L ∧ FrameEnd U o U' L room_1.cells room_1.slots) := by
  obtain ⟨S_r0, E_r0, S_r1, E_r1, S_r2, E_r2, S_r3, E_r3, S_r4, Ar_r4, Sz_r4, El_r4_0, F_r0_symbol, El_r4_1, F_r1_symbol, El_r4_2, F_r2_symbol, El_r4_3, F_r3_symbol, ne_r0_r1, ne_r0_r2, ne_r0_r3, ne_r1_r2, ne_r1_r3, ne_r2_r3⟩ := id F
  refine MetFree.of_bodySF (plainFor_of_name own_pn_OperatorBySymbolPinLaw) hisR ?_
  intro p e s m args below meth c s₁ Bd hml0 hP hK
  obtain ⟨rfl, hZ, hh⟩ := hP
  have hx := Bd.exec
  have hby := Bd.bytes
  have hml : c.maxLocals = 6 := hml0
  have hown : s.vm.findClass "dragoman/OperatorBySymbolPinLaw" = some m.cls := findClass_of_methodNamed Bd.named
  have X0 : Stand p l e room_1 s m #[(.int i0), (.int i1)] below meth c s₁ [] 0 0 := Stand.of_body Bd
  have e0 : s₁.heap = h0 := by rw [← hh, Bd.state]; rfl
  have N0 := Fr.nil n0
  have pre0 : ∀ t, Steps p.tables e below (s₁.setTop (mkF m 0 #[.val (.int i0), .val (.int i1), .unset, .unset, .unset, .unset] [])) t → Steps p.tables e below (s₁.setTop (entryFrame m #[(.int i0), (.int i1)] maxLocals)) t := fun t k => castTop (own_ef0_II m i0 i1) k
  obtain ⟨T1, h1, k1, X1, e1, E1, A1, st1⟩ := newP X0 hx hZ (hw _ (List.mem_of_getElem? (i := 0) rfl)) e0 (g := (mkF m 35 #[.val (.int i0), .val (.int i1), .val (.int (3 : Int32)), .unset, .unset, .unset] [(.int (4 : Int32))])) rfl (hb hby at_35) rfl (by decide) (cap := 4) (by decide) (by decide) (by decide) (by decide)
  obtain ⟨b1, g1⟩ : ∃ z, z = h0.size := ⟨_, rfl⟩
  rw [← g1] at A1 st1
  have V_1 : Arv Z h1 b1 k1 .char (4 : Int32) [(.int (0 : Int32)), (.int (0 : Int32)), (.int (0 : Int32)), (.int (0 : Int32))] (.int (0 : Int32)) := (Arv.new A1 (by decide)).pad (pad_rep [] (.int (0 : Int32)) 4)
  have g_b1 : n0 ≤ b1 := Nat.le_trans Z0 (Nat.le_of_eq g1.symm)
  have sz_b1 : h0.size ≤ b1 := Nat.le_trans (Keep.refl h0 []).1 (Nat.le_of_eq g1.symm)
  have K1 : Keep h0 h1 [] := (Keep.refl h0 []).ext E1
  have F1 : own_W Z h1 r0 r1 r2 r3 r4 cl_r4 := own_W_ext ⟨K1.1, fun a c q => K1.2.1 a c q (by simp)⟩ F
  obtain ⟨cl_2, Ar_2, q_2, S_2, N_2, H_2, G_2⟩ := V_1
  obtain ⟨T2, h2, X2, e2, W2, st2⟩ := stC X1 hx hZ e1 Ar_2 (j := (0 : Int32)) (inb_of S_2 ⟨by decide, by decide⟩) (g := (mkF m 41 #[.val (.int i0), .val (.int i1), .val (.int (3 : Int32)), .unset, .unset, .unset] [(.int (43 : Int32)), (.int (0 : Int32)), (.ref b1), (.ref b1)])) rfl rfl (hb hby at_41)
  have V_2 := Arv.set Ar_2 q_2 S_2 N_2 H_2 G_2 (fits_nar_char _) W2 0 rfl (Nat.le_of_ble_eq_true rfl)
  have K2 : Keep h0 h2 [] := K1.wr W2 (Or.inr sz_b1)
  have N2 := Fr.snoc X2 N0 g_b1
  have F2 : own_W Z h2 r0 r1 r2 r3 r4 cl_r4 := own_W_ext ⟨K2.1, fun a c q => K2.2.1 a c q (by simp)⟩ F
  obtain ⟨cl_3, Ar_3, q_3, S_3, N_3, H_3, G_3⟩ := V_2
  obtain ⟨T3, h3, X3, e3, W3, st3⟩ := stC X2 hx hZ e2 Ar_3 (j := (1 : Int32)) (inb_of S_3 ⟨by decide, by decide⟩) (g := (mkF m 46 #[.val (.int i0), .val (.int i1), .val (.int (3 : Int32)), .unset, .unset, .unset] [(.int (45 : Int32)), (.int (1 : Int32)), (.ref b1), (.ref b1)])) rfl rfl (hb hby at_46)
  have V_3 := Arv.set Ar_3 q_3 S_3 N_3 H_3 G_3 (fits_nar_char _) W3 1 rfl (Nat.le_of_ble_eq_true rfl)
  have K3 : Keep h0 h3 [] := K2.wr W3 (Or.inr sz_b1)
  have N3 := Fr.snoc X3 N2 g_b1
  have F3 : own_W Z h3 r0 r1 r2 r3 r4 cl_r4 := own_W_ext ⟨K3.1, fun a c q => K3.2.1 a c q (by simp)⟩ F
  obtain ⟨cl_4, Ar_4, q_4, S_4, N_4, H_4, G_4⟩ := V_3
  obtain ⟨T4, h4, X4, e4, W4, st4⟩ := stC X3 hx hZ e3 Ar_4 (j := (2 : Int32)) (inb_of S_4 ⟨by decide, by decide⟩) (g := (mkF m 51 #[.val (.int i0), .val (.int i1), .val (.int (3 : Int32)), .unset, .unset, .unset] [(.int (42 : Int32)), (.int (2 : Int32)), (.ref b1), (.ref b1)])) rfl rfl (hb hby at_51)
  have V_4 := Arv.set Ar_4 q_4 S_4 N_4 H_4 G_4 (fits_nar_char _) W4 2 rfl (Nat.le_of_ble_eq_true rfl)
  have K4 : Keep h0 h4 [] := K3.wr W4 (Or.inr sz_b1)
  have N4 := Fr.snoc X4 N3 g_b1
  have F4 : own_W Z h4 r0 r1 r2 r3 r4 cl_r4 := own_W_ext ⟨K4.1, fun a c q => K4.2.1 a c q (by simp)⟩ F
  obtain ⟨cl_5, Ar_5, q_5, S_5, N_5, H_5, G_5⟩ := V_4
  obtain ⟨T5, h5, X5, e5, W5, st5⟩ := stC X4 hx hZ e4 Ar_5 (j := (3 : Int32)) (inb_of S_5 ⟨by decide, by decide⟩) (g := (mkF m 56 #[.val (.int i0), .val (.int i1), .val (.int (3 : Int32)), .unset, .unset, .unset] [(.int (47 : Int32)), (.int (3 : Int32)), (.ref b1), (.ref b1)])) rfl rfl (hb hby at_56)
  have V_5 := Arv.set Ar_5 q_5 S_5 N_5 H_5 G_5 (fits_nar_char _) W5 3 rfl (Nat.le_of_ble_eq_true rfl)
  have K5 : Keep h0 h5 [] := K4.wr W5 (Or.inr sz_b1)
  have N5 := Fr.snoc X5 N4 g_b1
  have F5 : own_W Z h5 r0 r1 r2 r3 r4 cl_r4 := own_W_ext ⟨K5.1, fun a c q => K5.2.1 a c q (by simp)⟩ F
  obtain ⟨cl_6, Ar_6, q_6, S_6, N_6, H_6, G_6⟩ := id V_5
  have hin6 : ¬ ((2 : Int32) < 0 ∨ cl_6.slots.size ≤ ((2 : Int32)).toNatClampNeg) := inb_of S_6 ⟨by decide, by decide⟩
  have hat6 : cl_6.slots[((2 : Int32)).toNatClampNeg]? = some (.int (42 : Int32)) := Has.at H_6 hin6 rfl
  obtain ⟨_, _, ⟨T7, L7, k7, n7⟩, -, X7, ⟨Lc7, hQ7, l7, y7, z7⟩, st7⟩ := Jvm.LawKit.callS X5 hx (y := (⟨"dragoman/Operator", "bySymbol", "(C)Ldragoman/Operator;"⟩ : MethodName)) hown (mvT hZ (hw _ (List.mem_of_getElem? (i := 1) rfl))) (mvT hZ (hw _ (List.mem_of_getElem? (i := 2) rfl))) (mvT hZ (hw _ (List.mem_of_getElem? (i := 3) rfl))) (mvT hZ (hw _ (List.mem_of_getElem? (i := 4) rfl))) (by decide) (backOf (W := 0) (own_r1_28 l Z a0 hw [] r0 r1 r2 r3 r4 cl_r4 h5 n0 (Nat.le_trans Z0 K5.1) F5 ) hZ (hw _ (List.mem_of_getElem? (i := 4) rfl)) (hw _ (List.mem_of_getElem? (i := 3) rfl)) (by decide) (by decide)) (g := (mkF m 67 #[.val (.int i0), .val (.int i1), .val (.int (3 : Int32)), .val (.int (42 : Int32)), .val (.ref b1), .unset] [(.int (42 : Int32))])) rfl (by rw [hml]; rfl) (argsL := [(.int (42 : Int32))]) (rest := []) (lenOf own_pd0 rfl) rfl (by show 2 * 0 + _ ≤ _; exact Nat.le_of_eq rfl) (hb hby at_67) (fun _ _ => ⟨rfl, e5, (by decide : 1 + 0 ≤ _), (by decide : 4 + 0 ≤ _)⟩)
  dsimp only [Pt.U, Pt.locs, Pt.cells, Pt.slots] at X7 l7 y7 z7 st7 hQ7
  subst l7 y7 z7
  obtain ⟨rfl, N7q, e7⟩ := hQ7
  have N7 := Fr.app N5 N7q
  obtain ⟨_, _, ⟨T8, L8, k8, n8⟩, -, X8, ⟨Lc8, hQ8, l8, y8, z8⟩, st8⟩ := Jvm.LawKit.callS X7 hx (y := (⟨"dragoman/OperatorBySymbolPinLaw", "expected", "(C)Ldragoman/Operator;"⟩ : MethodName)) hown (mvT hZ (hw _ (List.mem_of_getElem? (i := 10) rfl))) (mvT hZ (hw _ (List.mem_of_getElem? (i := 11) rfl))) (mvT hZ (hw _ (List.mem_of_getElem? (i := 12) rfl))) (mvT hZ (hw _ (List.mem_of_getElem? (i := 13) rfl))) (by decide) (backOf (W := 0) (own_r2_29 l Z a0 hw [] r0 r1 r2 r3 r4 cl_r4 h5 n0 (Nat.le_trans Z0 K5.1) F5 ) hZ (hw _ (List.mem_of_getElem? (i := 13) rfl)) (hw _ (List.mem_of_getElem? (i := 12) rfl)) (by decide) (by decide)) (g := (mkF m 73 #[.val (.int i0), .val (.int i1), .val (.int (3 : Int32)), .val (.int (42 : Int32)), .val (.ref r2), .unset] [(.int (42 : Int32))])) rfl (by rw [hml]; rfl) (argsL := [(.int (42 : Int32))]) (rest := []) (lenOf own_pd0 rfl) rfl (by show 2 * 0 + _ ≤ _; exact Nat.le_of_eq rfl) (hb hby at_73) (fun _ _ => ⟨rfl, e7, (by decide : 1 + 0 ≤ _), (by decide : 4 + 0 ≤ _)⟩)
  dsimp only [Pt.U, Pt.locs, Pt.cells, Pt.slots] at X8 l8 y8 z8 st8 hQ8
  subst l8 y8 z8
  obtain ⟨rfl, N8q, e8⟩ := hQ8
  have N8 := Fr.app N7 N8q
  obtain ⟨fs, hr, hrun, hended, hW, hsame⟩ := X8.leave (v := some (.int (1 : Int32))) (fun h => by rw [Bd.returns] at h; cases h)
  refine ⟨_, _, pre0 _ ?_, hrun, hended, _, _, rfl, ?_, ⟨_, rfl⟩, hW, hsame.mono (by decide) (by decide)⟩
  · show Steps p.tables e below (s₁.setTop (mkF m 0 #[.val (.int i0), .val (.int i1), .unset, .unset, .unset, .unset] [])) _
    refine XS.iloadN X0.here hx rfl (hb hby at_0) rfl ?_
    show Steps p.tables e below (s₁.setTop (mkF m 1 #[.val (.int i0), .val (.int i1), .unset, .unset, .unset, .unset] [(.int i1)])) _
    refine XS.iconst X0.here hx rfl (hb hby at_1) ?_
    show Steps p.tables e below (s₁.setTop (mkF m 2 #[.val (.int i0), .val (.int i1), .unset, .unset, .unset, .unset] [(.int (3 : Int32)), (.int i1)])) _
    refine XS.iand X0.here hx rfl (hb hby at_2) rfl ?_
    show Steps p.tables e below (s₁.setTop (mkF m 3 #[.val (.int i0), .val (.int i1), .unset, .unset, .unset, .unset] [(.int (i1 &&& (3 : Int32)))])) _
    rw [hm]
    show Steps p.tables e below (s₁.setTop (mkF m 3 #[.val (.int i0), .val (.int i1), .unset, .unset, .unset, .unset] [(.int (3 : Int32))])) _
    refine XS.istoreN X0.here hx rfl (hb hby at_3) rfl (l' := #[.val (.int i0), .val (.int i1), .val (.int (3 : Int32)), .unset, .unset, .unset]) rfl ?_
    show Steps p.tables e below (s₁.setTop (mkF m 4 #[.val (.int i0), .val (.int i1), .val (.int (3 : Int32)), .unset, .unset, .unset] [])) _
    refine XS.iloadN X0.here hx rfl (hb hby at_4) rfl ?_
    show Steps p.tables e below (s₁.setTop (mkF m 5 #[.val (.int i0), .val (.int i1), .val (.int (3 : Int32)), .unset, .unset, .unset] [(.int (3 : Int32))])) _
    refine XS.ifYes X0.here hx rfl (pc0 := 5) (pc' := 17) rfl (hb hby at_5) rfl ((if0 _ _).trans (feq (by decide : ¬ ((3 : Int32) = (0 : Int32)))).2) (by decide) (by decide) ?_
    show Steps p.tables e below (s₁.setTop (mkF m 17 #[.val (.int i0), .val (.int i1), .val (.int (3 : Int32)), .unset, .unset, .unset] [])) _
    refine XS.iloadN X0.here hx rfl (hb hby at_17) rfl ?_
    show Steps p.tables e below (s₁.setTop (mkF m 18 #[.val (.int i0), .val (.int i1), .val (.int (3 : Int32)), .unset, .unset, .unset] [(.int (3 : Int32))])) _
    refine XS.iconst X0.here hx rfl (hb hby at_18) ?_
    show Steps p.tables e below (s₁.setTop (mkF m 19 #[.val (.int i0), .val (.int i1), .val (.int (3 : Int32)), .unset, .unset, .unset] [(.int (1 : Int32)), (.int (3 : Int32))])) _
    refine XS.icmpYes X0.here hx rfl (pc0 := 19) (pc' := 34) rfl (hb hby at_19) rfl (feq (by decide : ¬ ((3 : Int32) = (1 : Int32)))).2 (by decide) (by decide) ?_
    show Steps p.tables e below (s₁.setTop (mkF m 34 #[.val (.int i0), .val (.int i1), .val (.int (3 : Int32)), .unset, .unset, .unset] [])) _
    refine XS.iconst X0.here hx rfl (hb hby at_34) ?_
    show Steps p.tables e below (s₁.setTop (mkF m 35 #[.val (.int i0), .val (.int i1), .val (.int (3 : Int32)), .unset, .unset, .unset] [(.int (4 : Int32))])) _
    refine st1 _ ?_
    show Steps p.tables e below (T1.setTop (mkF m 37 #[.val (.int i0), .val (.int i1), .val (.int (3 : Int32)), .unset, .unset, .unset] [(.ref b1)])) _
    refine XS.dup X1.here hx rfl (hb hby at_37) rfl rfl ?_
    show Steps p.tables e below (T1.setTop (mkF m 38 #[.val (.int i0), .val (.int i1), .val (.int (3 : Int32)), .unset, .unset, .unset] [(.ref b1), (.ref b1)])) _
    refine XS.iconst X1.here hx rfl (hb hby at_38) ?_
    show Steps p.tables e below (T1.setTop (mkF m 39 #[.val (.int i0), .val (.int i1), .val (.int (3 : Int32)), .unset, .unset, .unset] [(.int (0 : Int32)), (.ref b1), (.ref b1)])) _
    refine XS.bipush X1.here hx rfl (hb hby at_39) ?_
    show Steps p.tables e below (T1.setTop (mkF m 41 #[.val (.int i0), .val (.int i1), .val (.int (3 : Int32)), .unset, .unset, .unset] [(.int (43 : Int32)), (.int (0 : Int32)), (.ref b1), (.ref b1)])) _
    refine st2 _ ?_
    show Steps p.tables e below (T2.setTop (mkF m 42 #[.val (.int i0), .val (.int i1), .val (.int (3 : Int32)), .unset, .unset, .unset] [(.ref b1)])) _
    refine XS.dup X2.here hx rfl (hb hby at_42) rfl rfl ?_
    show Steps p.tables e below (T2.setTop (mkF m 43 #[.val (.int i0), .val (.int i1), .val (.int (3 : Int32)), .unset, .unset, .unset] [(.ref b1), (.ref b1)])) _
    refine XS.iconst X2.here hx rfl (hb hby at_43) ?_
    show Steps p.tables e below (T2.setTop (mkF m 44 #[.val (.int i0), .val (.int i1), .val (.int (3 : Int32)), .unset, .unset, .unset] [(.int (1 : Int32)), (.ref b1), (.ref b1)])) _
    refine XS.bipush X2.here hx rfl (hb hby at_44) ?_
    show Steps p.tables e below (T2.setTop (mkF m 46 #[.val (.int i0), .val (.int i1), .val (.int (3 : Int32)), .unset, .unset, .unset] [(.int (45 : Int32)), (.int (1 : Int32)), (.ref b1), (.ref b1)])) _
    refine st3 _ ?_
    show Steps p.tables e below (T3.setTop (mkF m 47 #[.val (.int i0), .val (.int i1), .val (.int (3 : Int32)), .unset, .unset, .unset] [(.ref b1)])) _
    refine XS.dup X3.here hx rfl (hb hby at_47) rfl rfl ?_
    show Steps p.tables e below (T3.setTop (mkF m 48 #[.val (.int i0), .val (.int i1), .val (.int (3 : Int32)), .unset, .unset, .unset] [(.ref b1), (.ref b1)])) _
    refine XS.iconst X3.here hx rfl (hb hby at_48) ?_
    show Steps p.tables e below (T3.setTop (mkF m 49 #[.val (.int i0), .val (.int i1), .val (.int (3 : Int32)), .unset, .unset, .unset] [(.int (2 : Int32)), (.ref b1), (.ref b1)])) _
    refine XS.bipush X3.here hx rfl (hb hby at_49) ?_
    show Steps p.tables e below (T3.setTop (mkF m 51 #[.val (.int i0), .val (.int i1), .val (.int (3 : Int32)), .unset, .unset, .unset] [(.int (42 : Int32)), (.int (2 : Int32)), (.ref b1), (.ref b1)])) _
    refine st4 _ ?_
    show Steps p.tables e below (T4.setTop (mkF m 52 #[.val (.int i0), .val (.int i1), .val (.int (3 : Int32)), .unset, .unset, .unset] [(.ref b1)])) _
    refine XS.dup X4.here hx rfl (hb hby at_52) rfl rfl ?_
    show Steps p.tables e below (T4.setTop (mkF m 53 #[.val (.int i0), .val (.int i1), .val (.int (3 : Int32)), .unset, .unset, .unset] [(.ref b1), (.ref b1)])) _
    refine XS.iconst X4.here hx rfl (hb hby at_53) ?_
    show Steps p.tables e below (T4.setTop (mkF m 54 #[.val (.int i0), .val (.int i1), .val (.int (3 : Int32)), .unset, .unset, .unset] [(.int (3 : Int32)), (.ref b1), (.ref b1)])) _
    refine XS.bipush X4.here hx rfl (hb hby at_54) ?_
    show Steps p.tables e below (T4.setTop (mkF m 56 #[.val (.int i0), .val (.int i1), .val (.int (3 : Int32)), .unset, .unset, .unset] [(.int (47 : Int32)), (.int (3 : Int32)), (.ref b1), (.ref b1)])) _
    refine st5 _ ?_
    show Steps p.tables e below (T5.setTop (mkF m 57 #[.val (.int i0), .val (.int i1), .val (.int (3 : Int32)), .unset, .unset, .unset] [(.ref b1)])) _
    refine XS.astore X5.here hx rfl (hb hby at_57) rfl rfl (l' := #[.val (.int i0), .val (.int i1), .val (.int (3 : Int32)), .unset, .val (.ref b1), .unset]) rfl ?_
    show Steps p.tables e below (T5.setTop (mkF m 59 #[.val (.int i0), .val (.int i1), .val (.int (3 : Int32)), .unset, .val (.ref b1), .unset] [])) _
    refine XS.aload X5.here hx rfl (hb hby at_59) rfl rfl ?_
    show Steps p.tables e below (T5.setTop (mkF m 61 #[.val (.int i0), .val (.int i1), .val (.int (3 : Int32)), .unset, .val (.ref b1), .unset] [(.ref b1)])) _
    refine XS.iloadN X5.here hx rfl (hb hby at_61) rfl ?_
    show Steps p.tables e below (T5.setTop (mkF m 62 #[.val (.int i0), .val (.int i1), .val (.int (3 : Int32)), .unset, .val (.ref b1), .unset] [(.int i0), (.ref b1)])) _
    refine XS.iconst X5.here hx rfl (hb hby at_62) ?_
    show Steps p.tables e below (T5.setTop (mkF m 63 #[.val (.int i0), .val (.int i1), .val (.int (3 : Int32)), .unset, .val (.ref b1), .unset] [(.int (3 : Int32)), (.int i0), (.ref b1)])) _
    refine XS.iand X5.here hx rfl (hb hby at_63) rfl ?_
    show Steps p.tables e below (T5.setTop (mkF m 64 #[.val (.int i0), .val (.int i1), .val (.int (3 : Int32)), .unset, .val (.ref b1), .unset] [(.int (i0 &&& (3 : Int32))), (.ref b1)])) _
    rw [hj]
    show Steps p.tables e below (T5.setTop (mkF m 64 #[.val (.int i0), .val (.int i1), .val (.int (3 : Int32)), .unset, .val (.ref b1), .unset] [(.int (2 : Int32)), (.ref b1)])) _
    refine X5.caload hx (j := (2 : Int32)) (v := (.int (42 : Int32))) (by rw [e5]; exact Ar_6.1) (State.isArrayOf_alike hZ.alike Ar_6.2.1) Ar_6.2.2 hin6 hat6 (g := (mkF m 64 #[.val (.int i0), .val (.int i1), .val (.int (3 : Int32)), .unset, .val (.ref b1), .unset] [(.int (2 : Int32)), (.ref b1)])) rfl rfl (hb hby at_64) _ ?_
    show Steps p.tables e below (T5.setTop (mkF m 65 #[.val (.int i0), .val (.int i1), .val (.int (3 : Int32)), .unset, .val (.ref b1), .unset] [(.int (42 : Int32))])) _
    refine XS.istoreN X5.here hx rfl (hb hby at_65) rfl (l' := #[.val (.int i0), .val (.int i1), .val (.int (3 : Int32)), .val (.int (42 : Int32)), .val (.ref b1), .unset]) rfl ?_
    show Steps p.tables e below (T5.setTop (mkF m 66 #[.val (.int i0), .val (.int i1), .val (.int (3 : Int32)), .val (.int (42 : Int32)), .val (.ref b1), .unset] [])) _
    refine XS.iloadN X5.here hx rfl (hb hby at_66) rfl ?_
    show Steps p.tables e below (T5.setTop (mkF m 67 #[.val (.int i0), .val (.int i1), .val (.int (3 : Int32)), .val (.int (42 : Int32)), .val (.ref b1), .unset] [(.int (42 : Int32))])) _
    refine st7 _ ?_
    show Steps p.tables e below (T7.setTop (mkF m 70 #[.val (.int i0), .val (.int i1), .val (.int (3 : Int32)), .val (.int (42 : Int32)), .val (.ref b1), .unset] [(.ref r2)])) _
    refine XS.astore X7.here hx rfl (hb hby at_70) rfl rfl (l' := #[.val (.int i0), .val (.int i1), .val (.int (3 : Int32)), .val (.int (42 : Int32)), .val (.ref r2), .unset]) rfl ?_
    show Steps p.tables e below (T7.setTop (mkF m 72 #[.val (.int i0), .val (.int i1), .val (.int (3 : Int32)), .val (.int (42 : Int32)), .val (.ref r2), .unset] [])) _
    refine XS.iloadN X7.here hx rfl (hb hby at_72) rfl ?_
    show Steps p.tables e below (T7.setTop (mkF m 73 #[.val (.int i0), .val (.int i1), .val (.int (3 : Int32)), .val (.int (42 : Int32)), .val (.ref r2), .unset] [(.int (42 : Int32))])) _
    refine st8 _ ?_
    show Steps p.tables e below (T8.setTop (mkF m 76 #[.val (.int i0), .val (.int i1), .val (.int (3 : Int32)), .val (.int (42 : Int32)), .val (.ref r2), .unset] [(.ref r2)])) _
    refine XS.astore X8.here hx rfl (hb hby at_76) rfl rfl (l' := #[.val (.int i0), .val (.int i1), .val (.int (3 : Int32)), .val (.int (42 : Int32)), .val (.ref r2), .val (.ref r2)]) rfl ?_
    show Steps p.tables e below (T8.setTop (mkF m 78 #[.val (.int i0), .val (.int i1), .val (.int (3 : Int32)), .val (.int (42 : Int32)), .val (.ref r2), .val (.ref r2)] [])) _
    refine XS.aload X8.here hx rfl (hb hby at_78) rfl rfl ?_
    show Steps p.tables e below (T8.setTop (mkF m 80 #[.val (.int i0), .val (.int i1), .val (.int (3 : Int32)), .val (.int (42 : Int32)), .val (.ref r2), .val (.ref r2)] [(.ref r2)])) _
    refine XS.aload X8.here hx rfl (hb hby at_80) rfl rfl ?_
    show Steps p.tables e below (T8.setTop (mkF m 82 #[.val (.int i0), .val (.int i1), .val (.int (3 : Int32)), .val (.int (42 : Int32)), .val (.ref r2), .val (.ref r2)] [(.ref r2), (.ref r2)])) _
    refine Jvm.RoadKit.acmp (g := (mkF m 82 #[.val (.int i0), .val (.int i1), .val (.int (3 : Int32)), .val (.int (42 : Int32)), .val (.ref r2), .val (.ref r2)] [(.ref r2), (.ref r2)])) X8 hx rfl rfl rfl (pc0 := 82) (pc' := 85) (same := true) rfl (hb hby at_82) rfl (decide_eq_true rfl) (by decide) (by decide) ?_
    show Steps p.tables e below (T8.setTop (mkF m 85 #[.val (.int i0), .val (.int i1), .val (.int (3 : Int32)), .val (.int (42 : Int32)), .val (.ref r2), .val (.ref r2)] [])) _
    refine XS.iconst X8.here hx rfl (hb hby at_85) ?_
    show Steps p.tables e below (T8.setTop (mkF m 86 #[.val (.int i0), .val (.int i1), .val (.int (3 : Int32)), .val (.int (42 : Int32)), .val (.ref r2), .val (.ref r2)] [(.int (1 : Int32))])) _
    refine XS.goto X8.here hx rfl (pc0 := 86) (pc' := 90) rfl (hb hby at_86) (by decide) (by decide) ?_
    show Steps p.tables e below (T8.setTop (mkF m 90 #[.val (.int i0), .val (.int i1), .val (.int (3 : Int32)), .val (.int (42 : Int32)), .val (.ref r2), .val (.ref r2)] [(.int (1 : Int32))])) _
    exact retN X8 hx (t := .boolean) Bd.returns (by simp) (hb hby at_90) hr
  · exact ⟨rfl, N8⟩
set_option maxRecDepth 65536 in
set_option maxHeartbeats 40000000 in
theorem own_r0_m3j3 (l : Launch) (Z : State) (a0 : Array Value) (hw : ∀ d ∈ tables_1, d.before a0 Z = true) (ws : List Jvm.Cond) (r0 : Addr) (r1 : Addr) (r2 : Addr) (r3 : Addr) (r4 : Addr) (cl_r4 : Cell) (h0 : Heap) (n0 : Nat) (Z0 : n0 ≤ h0.size) (F : own_W Z h0 r0 r1 r2 r3 r4 cl_r4) (i0 : Int32) (i1 : Int32) (hm : (i1 &&& (3 : Int32)) = (3 : Int32)) (hj : (i0 &&& (3 : Int32)) = (3 : Int32)) :
    MetFree l x (head1 (Jvm.Cond.code x code maxLocals ret :: ws) room_1) (fun a U => a = #[(.int i0), (.int i1)] ∧ Z.Warmed39 U.vm ∧ U.heap = h0) (fun _ _ _ _ _ => True) (fun _ U o U' => ∃ v L, o = .returned v ∧ own_Q0 (.int (1 : Int32)) n0 v U'.heap L ∧ FrameEnd U o U' L room_1.cells room_1.slots) := by
  obtain ⟨S_r0, E_r0, S_r1, E_r1, S_r2, E_r2, S_r3, E_r3, S_r4, Ar_r4, Sz_r4, El_r4_0, F_r0_symbol, El_r4_1, F_r1_symbol, El_r4_2, F_r2_symbol, El_r4_3, F_r3_symbol, ne_r0_r1, ne_r0_r2, ne_r0_r3, ne_r1_r2, ne_r1_r3, ne_r2_r3⟩ := id F
  refine MetFree.of_bodySF (plainFor_of_name own_pn_OperatorBySymbolPinLaw) hisR ?_
  intro p e s m args below meth c s₁ Bd hml0 hP hK
  obtain ⟨rfl, hZ, hh⟩ := hP
  have hx := Bd.exec
  have hby := Bd.bytes
  have hml : c.maxLocals = 6 := hml0
  have hown : s.vm.findClass "dragoman/OperatorBySymbolPinLaw" = some m.cls := findClass_of_methodNamed Bd.named
  have X0 : Stand p l e room_1 s m #[(.int i0), (.int i1)] below meth c s₁ [] 0 0 := Stand.of_body Bd
  have e0 : s₁.heap = h0 := by rw [← hh, Bd.state]; rfl
  have N0 := Fr.nil n0
  have pre0 : ∀ t, Steps p.tables e below (s₁.setTop (mkF m 0 #[.val (.int i0), .val (.int i1), .unset, .unset, .unset, .unset] [])) t → Steps p.tables e below (s₁.setTop (entryFrame m #[(.int i0), (.int i1)] maxLocals)) t := fun t k => castTop (own_ef0_II m i0 i1) k
  obtain ⟨T1, h1, k1, X1, e1, E1, A1, st1⟩ := newP X0 hx hZ (hw _ (List.mem_of_getElem? (i := 0) rfl)) e0 (g := (mkF m 35 #[.val (.int i0), .val (.int i1), .val (.int (3 : Int32)), .unset, .unset, .unset] [(.int (4 : Int32))])) rfl (hb hby at_35) rfl (by decide) (cap := 4) (by decide) (by decide) (by decide) (by decide)
  obtain ⟨b1, g1⟩ : ∃ z, z = h0.size := ⟨_, rfl⟩
  rw [← g1] at A1 st1
  have V_1 : Arv Z h1 b1 k1 .char (4 : Int32) [(.int (0 : Int32)), (.int (0 : Int32)), (.int (0 : Int32)), (.int (0 : Int32))] (.int (0 : Int32)) := (Arv.new A1 (by decide)).pad (pad_rep [] (.int (0 : Int32)) 4)
  have g_b1 : n0 ≤ b1 := Nat.le_trans Z0 (Nat.le_of_eq g1.symm)
  have sz_b1 : h0.size ≤ b1 := Nat.le_trans (Keep.refl h0 []).1 (Nat.le_of_eq g1.symm)
  have K1 : Keep h0 h1 [] := (Keep.refl h0 []).ext E1
  have F1 : own_W Z h1 r0 r1 r2 r3 r4 cl_r4 := own_W_ext ⟨K1.1, fun a c q => K1.2.1 a c q (by simp)⟩ F
  obtain ⟨cl_2, Ar_2, q_2, S_2, N_2, H_2, G_2⟩ := V_1
  obtain ⟨T2, h2, X2, e2, W2, st2⟩ := stC X1 hx hZ e1 Ar_2 (j := (0 : Int32)) (inb_of S_2 ⟨by decide, by decide⟩) (g := (mkF m 41 #[.val (.int i0), .val (.int i1), .val (.int (3 : Int32)), .unset, .unset, .unset] [(.int (43 : Int32)), (.int (0 : Int32)), (.ref b1), (.ref b1)])) rfl rfl (hb hby at_41)
  have V_2 := Arv.set Ar_2 q_2 S_2 N_2 H_2 G_2 (fits_nar_char _) W2 0 rfl (Nat.le_of_ble_eq_true rfl)
  have K2 : Keep h0 h2 [] := K1.wr W2 (Or.inr sz_b1)
  have N2 := Fr.snoc X2 N0 g_b1
  have F2 : own_W Z h2 r0 r1 r2 r3 r4 cl_r4 := own_W_ext ⟨K2.1, fun a c q => K2.2.1 a c q (by simp)⟩ F
  obtain ⟨cl_3, Ar_3, q_3, S_3, N_3, H_3, G_3⟩ := V_2
  obtain ⟨T3, h3, X3, e3, W3, st3⟩ := stC X2 hx hZ e2 Ar_3 (j := (1 : Int32)) (inb_of S_3 ⟨by decide, by decide⟩) (g := (mkF m 46 #[.val (.int i0), .val (.int i1), .val (.int (3 : Int32)), .unset, .unset, .unset] [(.int (45 : Int32)), (.int (1 : Int32)), (.ref b1), (.ref b1)])) rfl rfl (hb hby at_46)
  have V_3 := Arv.set Ar_3 q_3 S_3 N_3 H_3 G_3 (fits_nar_char _) W3 1 rfl (Nat.le_of_ble_eq_true rfl)
  have K3 : Keep h0 h3 [] := K2.wr W3 (Or.inr sz_b1)
  have N3 := Fr.snoc X3 N2 g_b1
  have F3 : own_W Z h3 r0 r1 r2 r3 r4 cl_r4 := own_W_ext ⟨K3.1, fun a c q => K3.2.1 a c q (by simp)⟩ F
  obtain ⟨cl_4, Ar_4, q_4, S_4, N_4, H_4, G_4⟩ := V_3
  obtain ⟨T4, h4, X4, e4, W4, st4⟩ := stC X3 hx hZ e3 Ar_4 (j := (2 : Int32)) (inb_of S_4 ⟨by decide, by decide⟩) (g := (mkF m 51 #[.val (.int i0), .val (.int i1), .val (.int (3 : Int32)), .unset, .unset, .unset] [(.int (42 : Int32)), (.int (2 : Int32)), (.ref b1), (.ref b1)])) rfl rfl (hb hby at_51)
  have V_4 := Arv.set Ar_4 q_4 S_4 N_4 H_4 G_4 (fits_nar_char _) W4 2 rfl (Nat.le_of_ble_eq_true rfl)
  have K4 : Keep h0 h4 [] := K3.wr W4 (Or.inr sz_b1)
  have N4 := Fr.snoc X4 N3 g_b1
  have F4 : own_W Z h4 r0 r1 r2 r3 r4 cl_r4 := own_W_ext ⟨K4.1, fun a c q => K4.2.1 a c q (by simp)⟩ F
  obtain ⟨cl_5, Ar_5, q_5, S_5, N_5, H_5, G_5⟩ := V_4
  obtain ⟨T5, h5, X5, e5, W5, st5⟩ := stC X4 hx hZ e4 Ar_5 (j := (3 : Int32)) (inb_of S_5 ⟨by decide, by decide⟩) (g := (mkF m 56 #[.val (.int i0), .val (.int i1), .val (.int (3 : Int32)), .unset, .unset, .unset] [(.int (47 : Int32)), (.int (3 : Int32)), (.ref b1), (.ref b1)])) rfl rfl (hb hby at_56)
  have V_5 := Arv.set Ar_5 q_5 S_5 N_5 H_5 G_5 (fits_nar_char _) W5 3 rfl (Nat.le_of_ble_eq_true rfl)
  have K5 : Keep h0 h5 [] := K4.wr W5 (Or.inr sz_b1)
  have N5 := Fr.snoc X5 N4 g_b1
  have F5 : own_W Z h5 r0 r1 r2 r3 r4 cl_r4 := own_W_ext ⟨K5.1, fun a c q => K5.2.1 a c q (by simp)⟩ F
  obtain ⟨cl_6, Ar_6, q_6, S_6, N_6, H_6, G_6⟩ := id V_5
  have hin6 : ¬ ((3 : Int32) < 0 ∨ cl_6.slots.size ≤ ((3 : Int32)).toNatClampNeg) := inb_of S_6 ⟨by decide, by decide⟩
  have hat6 : cl_6.slots[((3 : Int32)).toNatClampNeg]? = some (.int (47 : Int32)) := Has.at H_6 hin6 rfl
  obtain ⟨_, _, ⟨T7, L7, k7, n7⟩, -, X7, ⟨Lc7, hQ7, l7, y7, z7⟩, st7⟩ := Jvm.LawKit.callS X5 hx (y := (⟨"dragoman/Operator", "bySymbol", "(C)Ldragoman/Operator;"⟩ : MethodName)) hown (mvT hZ (hw _ (List.mem_of_getElem? (i := 1) rfl))) (mvT hZ (hw _ (List.mem_of_getElem? (i := 2) rfl))) (mvT hZ (hw _ (List.mem_of_getElem? (i := 3) rfl))) (mvT hZ (hw _ (List.mem_of_getElem? (i := 4) rfl))) (by decide) (backOf (W := 0) (own_r1_31 l Z a0 hw [] r0 r1 r2 r3 r4 cl_r4 h5 n0 (Nat.le_trans Z0 K5.1) F5 ) hZ (hw _ (List.mem_of_getElem? (i := 4) rfl)) (hw _ (List.mem_of_getElem? (i := 3) rfl)) (by decide) (by decide)) (g := (mkF m 67 #[.val (.int i0), .val (.int i1), .val (.int (3 : Int32)), .val (.int (47 : Int32)), .val (.ref b1), .unset] [(.int (47 : Int32))])) rfl (by rw [hml]; rfl) (argsL := [(.int (47 : Int32))]) (rest := []) (lenOf own_pd0 rfl) rfl (by show 2 * 0 + _ ≤ _; exact Nat.le_of_eq rfl) (hb hby at_67) (fun _ _ => ⟨rfl, e5, (by decide : 1 + 0 ≤ _), (by decide : 4 + 0 ≤ _)⟩)
  dsimp only [Pt.U, Pt.locs, Pt.cells, Pt.slots] at X7 l7 y7 z7 st7 hQ7
  subst l7 y7 z7
  obtain ⟨rfl, N7q, e7⟩ := hQ7
  have N7 := Fr.app N5 N7q
  obtain ⟨_, _, ⟨T8, L8, k8, n8⟩, -, X8, ⟨Lc8, hQ8, l8, y8, z8⟩, st8⟩ := Jvm.LawKit.callS X7 hx (y := (⟨"dragoman/OperatorBySymbolPinLaw", "expected", "(C)Ldragoman/Operator;"⟩ : MethodName)) hown (mvT hZ (hw _ (List.mem_of_getElem? (i := 10) rfl))) (mvT hZ (hw _ (List.mem_of_getElem? (i := 11) rfl))) (mvT hZ (hw _ (List.mem_of_getElem? (i := 12) rfl))) (mvT hZ (hw _ (List.mem_of_getElem? (i := 13) rfl))) (by decide) (backOf (W := 0) (own_r2_32 l Z a0 hw [] r0 r1 r2 r3 r4 cl_r4 h5 n0 (Nat.le_trans Z0 K5.1) F5 ) hZ (hw _ (List.mem_of_getElem? (i := 13) rfl)) (hw _ (List.mem_of_getElem? (i := 12) rfl)) (by decide) (by decide)) (g := (mkF m 73 #[.val (.int i0), .val (.int i1), .val (.int (3 : Int32)), .val (.int (47 : Int32)), .val (.ref r3), .unset] [(.int (47 : Int32))])) rfl (by rw [hml]; rfl) (argsL := [(.int (47 : Int32))]) (rest := []) (lenOf own_pd0 rfl) rfl (by show 2 * 0 + _ ≤ _; exact Nat.le_of_eq rfl) (hb hby at_73) (fun _ _ => ⟨rfl, e7, (by decide : 1 + 0 ≤ _), (by decide : 4 + 0 ≤ _)⟩)
  dsimp only [Pt.U, Pt.locs, Pt.cells, Pt.slots] at X8 l8 y8 z8 st8 hQ8
  subst l8 y8 z8
  obtain ⟨rfl, N8q, e8⟩ := hQ8
  have N8 := Fr.app N7 N8q
  obtain ⟨fs, hr, hrun, hended, hW, hsame⟩ := X8.leave (v := some (.int (1 : Int32))) (fun h => by rw [Bd.returns] at h; cases h)
  refine ⟨_, _, pre0 _ ?_, hrun, hended, _, _, rfl, ?_, ⟨_, rfl⟩, hW, hsame.mono (by decide) (by decide)⟩
  · show Steps p.tables e below (s₁.setTop (mkF m 0 #[.val (.int i0), .val (.int i1), .unset, .unset, .unset, .unset] [])) _
    refine XS.iloadN X0.here hx rfl (hb hby at_0) rfl ?_
    show Steps p.tables e below (s₁.setTop (mkF m 1 #[.val (.int i0), .val (.int i1), .unset, .unset, .unset, .unset] [(.int i1)])) _
    refine XS.iconst X0.here hx rfl (hb hby at_1) ?_
    show Steps p.tables e below (s₁.setTop (mkF m 2 #[.val (.int i0), .val (.int i1), .unset, .unset, .unset, .unset] [(.int (3 : Int32)), (.int i1)])) _
    refine XS.iand X0.here hx rfl (hb hby at_2) rfl ?_
    show Steps p.tables e below (s₁.setTop (mkF m 3 #[.val (.int i0), .val (.int i1), .unset, .unset, .unset, .unset] [(.int (i1 &&& (3 : Int32)))])) _
    rw [hm]
    show Steps p.tables e below (s₁.setTop (mkF m 3 #[.val (.int i0), .val (.int i1), .unset, .unset, .unset, .unset] [(.int (3 : Int32))])) _
    refine XS.istoreN X0.here hx rfl (hb hby at_3) rfl (l' := #[.val (.int i0), .val (.int i1), .val (.int (3 : Int32)), .unset, .unset, .unset]) rfl ?_
    show Steps p.tables e below (s₁.setTop (mkF m 4 #[.val (.int i0), .val (.int i1), .val (.int (3 : Int32)), .unset, .unset, .unset] [])) _
    refine XS.iloadN X0.here hx rfl (hb hby at_4) rfl ?_
    show Steps p.tables e below (s₁.setTop (mkF m 5 #[.val (.int i0), .val (.int i1), .val (.int (3 : Int32)), .unset, .unset, .unset] [(.int (3 : Int32))])) _
    refine XS.ifYes X0.here hx rfl (pc0 := 5) (pc' := 17) rfl (hb hby at_5) rfl ((if0 _ _).trans (feq (by decide : ¬ ((3 : Int32) = (0 : Int32)))).2) (by decide) (by decide) ?_
    show Steps p.tables e below (s₁.setTop (mkF m 17 #[.val (.int i0), .val (.int i1), .val (.int (3 : Int32)), .unset, .unset, .unset] [])) _
    refine XS.iloadN X0.here hx rfl (hb hby at_17) rfl ?_
    show Steps p.tables e below (s₁.setTop (mkF m 18 #[.val (.int i0), .val (.int i1), .val (.int (3 : Int32)), .unset, .unset, .unset] [(.int (3 : Int32))])) _
    refine XS.iconst X0.here hx rfl (hb hby at_18) ?_
    show Steps p.tables e below (s₁.setTop (mkF m 19 #[.val (.int i0), .val (.int i1), .val (.int (3 : Int32)), .unset, .unset, .unset] [(.int (1 : Int32)), (.int (3 : Int32))])) _
    refine XS.icmpYes X0.here hx rfl (pc0 := 19) (pc' := 34) rfl (hb hby at_19) rfl (feq (by decide : ¬ ((3 : Int32) = (1 : Int32)))).2 (by decide) (by decide) ?_
    show Steps p.tables e below (s₁.setTop (mkF m 34 #[.val (.int i0), .val (.int i1), .val (.int (3 : Int32)), .unset, .unset, .unset] [])) _
    refine XS.iconst X0.here hx rfl (hb hby at_34) ?_
    show Steps p.tables e below (s₁.setTop (mkF m 35 #[.val (.int i0), .val (.int i1), .val (.int (3 : Int32)), .unset, .unset, .unset] [(.int (4 : Int32))])) _
    refine st1 _ ?_
    show Steps p.tables e below (T1.setTop (mkF m 37 #[.val (.int i0), .val (.int i1), .val (.int (3 : Int32)), .unset, .unset, .unset] [(.ref b1)])) _
    refine XS.dup X1.here hx rfl (hb hby at_37) rfl rfl ?_
    show Steps p.tables e below (T1.setTop (mkF m 38 #[.val (.int i0), .val (.int i1), .val (.int (3 : Int32)), .unset, .unset, .unset] [(.ref b1), (.ref b1)])) _
    refine XS.iconst X1.here hx rfl (hb hby at_38) ?_
    show Steps p.tables e below (T1.setTop (mkF m 39 #[.val (.int i0), .val (.int i1), .val (.int (3 : Int32)), .unset, .unset, .unset] [(.int (0 : Int32)), (.ref b1), (.ref b1)])) _
    refine XS.bipush X1.here hx rfl (hb hby at_39) ?_
    show Steps p.tables e below (T1.setTop (mkF m 41 #[.val (.int i0), .val (.int i1), .val (.int (3 : Int32)), .unset, .unset, .unset] [(.int (43 : Int32)), (.int (0 : Int32)), (.ref b1), (.ref b1)])) _
    refine st2 _ ?_
    show Steps p.tables e below (T2.setTop (mkF m 42 #[.val (.int i0), .val (.int i1), .val (.int (3 : Int32)), .unset, .unset, .unset] [(.ref b1)])) _
    refine XS.dup X2.here hx rfl (hb hby at_42) rfl rfl ?_
    show Steps p.tables e below (T2.setTop (mkF m 43 #[.val (.int i0), .val (.int i1), .val (.int (3 : Int32)), .unset, .unset, .unset] [(.ref b1), (.ref b1)])) _
    refine XS.iconst X2.here hx rfl (hb hby at_43) ?_
    show Steps p.tables e below (T2.setTop (mkF m 44 #[.val (.int i0), .val (.int i1), .val (.int (3 : Int32)), .unset, .unset, .unset] [(.int (1 : Int32)), (.ref b1), (.ref b1)])) _
    refine XS.bipush X2.here hx rfl (hb hby at_44) ?_
    show Steps p.tables e below (T2.setTop (mkF m 46 #[.val (.int i0), .val (.int i1), .val (.int (3 : Int32)), .unset, .unset, .unset] [(.int (45 : Int32)), (.int (1 : Int32)), (.ref b1), (.ref b1)])) _
    refine st3 _ ?_
    show Steps p.tables e below (T3.setTop (mkF m 47 #[.val (.int i0), .val (.int i1), .val (.int (3 : Int32)), .unset, .unset, .unset] [(.ref b1)])) _
    refine XS.dup X3.here hx rfl (hb hby at_47) rfl rfl ?_
    show Steps p.tables e below (T3.setTop (mkF m 48 #[.val (.int i0), .val (.int i1), .val (.int (3 : Int32)), .unset, .unset, .unset] [(.ref b1), (.ref b1)])) _
    refine XS.iconst X3.here hx rfl (hb hby at_48) ?_
    show Steps p.tables e below (T3.setTop (mkF m 49 #[.val (.int i0), .val (.int i1), .val (.int (3 : Int32)), .unset, .unset, .unset] [(.int (2 : Int32)), (.ref b1), (.ref b1)])) _
    refine XS.bipush X3.here hx rfl (hb hby at_49) ?_
    show Steps p.tables e below (T3.setTop (mkF m 51 #[.val (.int i0), .val (.int i1), .val (.int (3 : Int32)), .unset, .unset, .unset] [(.int (42 : Int32)), (.int (2 : Int32)), (.ref b1), (.ref b1)])) _
    refine st4 _ ?_
    show Steps p.tables e below (T4.setTop (mkF m 52 #[.val (.int i0), .val (.int i1), .val (.int (3 : Int32)), .unset, .unset, .unset] [(.ref b1)])) _
    refine XS.dup X4.here hx rfl (hb hby at_52) rfl rfl ?_
    show Steps p.tables e below (T4.setTop (mkF m 53 #[.val (.int i0), .val (.int i1), .val (.int (3 : Int32)), .unset, .unset, .unset] [(.ref b1), (.ref b1)])) _
    refine XS.iconst X4.here hx rfl (hb hby at_53) ?_
    show Steps p.tables e below (T4.setTop (mkF m 54 #[.val (.int i0), .val (.int i1), .val (.int (3 : Int32)), .unset, .unset, .unset] [(.int (3 : Int32)), (.ref b1), (.ref b1)])) _
    refine XS.bipush X4.here hx rfl (hb hby at_54) ?_
    show Steps p.tables e below (T4.setTop (mkF m 56 #[.val (.int i0), .val (.int i1), .val (.int (3 : Int32)), .unset, .unset, .unset] [(.int (47 : Int32)), (.int (3 : Int32)), (.ref b1), (.ref b1)])) _
    refine st5 _ ?_
    show Steps p.tables e below (T5.setTop (mkF m 57 #[.val (.int i0), .val (.int i1), .val (.int (3 : Int32)), .unset, .unset, .unset] [(.ref b1)])) _
    refine XS.astore X5.here hx rfl (hb hby at_57) rfl rfl (l' := #[.val (.int i0), .val (.int i1), .val (.int (3 : Int32)), .unset, .val (.ref b1), .unset]) rfl ?_
    show Steps p.tables e below (T5.setTop (mkF m 59 #[.val (.int i0), .val (.int i1), .val (.int (3 : Int32)), .unset, .val (.ref b1), .unset] [])) _
    refine XS.aload X5.here hx rfl (hb hby at_59) rfl rfl ?_
    show Steps p.tables e below (T5.setTop (mkF m 61 #[.val (.int i0), .val (.int i1), .val (.int (3 : Int32)), .unset, .val (.ref b1), .unset] [(.ref b1)])) _
    refine XS.iloadN X5.here hx rfl (hb hby at_61) rfl ?_
    show Steps p.tables e below (T5.setTop (mkF m 62 #[.val (.int i0), .val (.int i1), .val (.int (3 : Int32)), .unset, .val (.ref b1), .unset] [(.int i0), (.ref b1)])) _
    refine XS.iconst X5.here hx rfl (hb hby at_62) ?_
    show Steps p.tables e below (T5.setTop (mkF m 63 #[.val (.int i0), .val (.int i1), .val (.int (3 : Int32)), .unset, .val (.ref b1), .unset] [(.int (3 : Int32)), (.int i0), (.ref b1)])) _
    refine XS.iand X5.here hx rfl (hb hby at_63) rfl ?_
    show Steps p.tables e below (T5.setTop (mkF m 64 #[.val (.int i0), .val (.int i1), .val (.int (3 : Int32)), .unset, .val (.ref b1), .unset] [(.int (i0 &&& (3 : Int32))), (.ref b1)])) _
    rw [hj]
    show Steps p.tables e below (T5.setTop (mkF m 64 #[.val (.int i0), .val (.int i1), .val (.int (3 : Int32)), .unset, .val (.ref b1), .unset] [(.int (3 : Int32)), (.ref b1)])) _
    refine X5.caload hx (j := (3 : Int32)) (v := (.int (47 : Int32))) (by rw [e5]; exact Ar_6.1) (State.isArrayOf_alike hZ.alike Ar_6.2.1) Ar_6.2.2 hin6 hat6 (g := (mkF m 64 #[.val (.int i0), .val (.int i1), .val (.int (3 : Int32)), .unset, .val (.ref b1), .unset] [(.int (3 : Int32)), (.ref b1)])) rfl rfl (hb hby at_64) _ ?_
    show Steps p.tables e below (T5.setTop (mkF m 65 #[.val (.int i0), .val (.int i1), .val (.int (3 : Int32)), .unset, .val (.ref b1), .unset] [(.int (47 : Int32))])) _
    refine XS.istoreN X5.here hx rfl (hb hby at_65) rfl (l' := #[.val (.int i0), .val (.int i1), .val (.int (3 : Int32)), .val (.int (47 : Int32)), .val (.ref b1), .unset]) rfl ?_
    show Steps p.tables e below (T5.setTop (mkF m 66 #[.val (.int i0), .val (.int i1), .val (.int (3 : Int32)), .val (.int (47 : Int32)), .val (.ref b1), .unset] [])) _
    refine XS.iloadN X5.here hx rfl (hb hby at_66) rfl ?_
    show Steps p.tables e below (T5.setTop (mkF m 67 #[.val (.int i0), .val (.int i1), .val (.int (3 : Int32)), .val (.int (47 : Int32)), .val (.ref b1), .unset] [(.int (47 : Int32))])) _
    refine st7 _ ?_
    show Steps p.tables e below (T7.setTop (mkF m 70 #[.val (.int i0), .val (.int i1), .val (.int (3 : Int32)), .val (.int (47 : Int32)), .val (.ref b1), .unset] [(.ref r3)])) _
    refine XS.astore X7.here hx rfl (hb hby at_70) rfl rfl (l' := #[.val (.int i0), .val (.int i1), .val (.int (3 : Int32)), .val (.int (47 : Int32)), .val (.ref r3), .unset]) rfl ?_
    show Steps p.tables e below (T7.setTop (mkF m 72 #[.val (.int i0), .val (.int i1), .val (.int (3 : Int32)), .val (.int (47 : Int32)), .val (.ref r3), .unset] [])) _
    refine XS.iloadN X7.here hx rfl (hb hby at_72) rfl ?_
    show Steps p.tables e below (T7.setTop (mkF m 73 #[.val (.int i0), .val (.int i1), .val (.int (3 : Int32)), .val (.int (47 : Int32)), .val (.ref r3), .unset] [(.int (47 : Int32))])) _
    refine st8 _ ?_
    show Steps p.tables e below (T8.setTop (mkF m 76 #[.val (.int i0), .val (.int i1), .val (.int (3 : Int32)), .val (.int (47 : Int32)), .val (.ref r3), .unset] [(.ref r3)])) _
    refine XS.astore X8.here hx rfl (hb hby at_76) rfl rfl (l' := #[.val (.int i0), .val (.int i1), .val (.int (3 : Int32)), .val (.int (47 : Int32)), .val (.ref r3), .val (.ref r3)]) rfl ?_
    show Steps p.tables e below (T8.setTop (mkF m 78 #[.val (.int i0), .val (.int i1), .val (.int (3 : Int32)), .val (.int (47 : Int32)), .val (.ref r3), .val (.ref r3)] [])) _
    refine XS.aload X8.here hx rfl (hb hby at_78) rfl rfl ?_
    show Steps p.tables e below (T8.setTop (mkF m 80 #[.val (.int i0), .val (.int i1), .val (.int (3 : Int32)), .val (.int (47 : Int32)), .val (.ref r3), .val (.ref r3)] [(.ref r3)])) _
    refine XS.aload X8.here hx rfl (hb hby at_80) rfl rfl ?_
    show Steps p.tables e below (T8.setTop (mkF m 82 #[.val (.int i0), .val (.int i1), .val (.int (3 : Int32)), .val (.int (47 : Int32)), .val (.ref r3), .val (.ref r3)] [(.ref r3), (.ref r3)])) _
    refine Jvm.RoadKit.acmp (g := (mkF m 82 #[.val (.int i0), .val (.int i1), .val (.int (3 : Int32)), .val (.int (47 : Int32)), .val (.ref r3), .val (.ref r3)] [(.ref r3), (.ref r3)])) X8 hx rfl rfl rfl (pc0 := 82) (pc' := 85) (same := true) rfl (hb hby at_82) rfl (decide_eq_true rfl) (by decide) (by decide) ?_
    show Steps p.tables e below (T8.setTop (mkF m 85 #[.val (.int i0), .val (.int i1), .val (.int (3 : Int32)), .val (.int (47 : Int32)), .val (.ref r3), .val (.ref r3)] [])) _
    refine XS.iconst X8.here hx rfl (hb hby at_85) ?_
    show Steps p.tables e below (T8.setTop (mkF m 86 #[.val (.int i0), .val (.int i1), .val (.int (3 : Int32)), .val (.int (47 : Int32)), .val (.ref r3), .val (.ref r3)] [(.int (1 : Int32))])) _
    refine XS.goto X8.here hx rfl (pc0 := 86) (pc' := 90) rfl (hb hby at_86) (by decide) (by decide) ?_
    show Steps p.tables e below (T8.setTop (mkF m 90 #[.val (.int i0), .val (.int i1), .val (.int (3 : Int32)), .val (.int (47 : Int32)), .val (.ref r3), .val (.ref r3)] [(.int (1 : Int32))])) _
    exact retN X8 hx (t := .boolean) Bd.returns (by simp) (hb hby at_90) hr
  · exact ⟨rfl, N8⟩
theorem own_r0 (l : Launch) (Z : State) (a0 : Array Value) (hw : ∀ d ∈ tables_1, d.before a0 Z = true) (ws : List Jvm.Cond) (r0 : Addr) (r1 : Addr) (r2 : Addr) (r3 : Addr) (r4 : Addr) (cl_r4 : Cell) (h0 : Heap) (n0 : Nat) (Z0 : n0 ≤ h0.size) (F : own_W Z h0 r0 r1 r2 r3 r4 cl_r4) (i0 i1 : Int32) :
    MetFree l x (head1 (Jvm.Cond.code x code maxLocals ret :: ws) room_1) (fun a U => a = #[(.int i0), (.int i1)] ∧ Z.Warmed39 U.vm ∧ U.heap = h0) (fun _ _ _ _ _ => True) (fun _ U o U' => ∃ v L, o = .returned v ∧ own_Q0 (.int (1 : Int32)) n0 v U'.heap L ∧ FrameEnd U o U' L room_1.cells room_1.slots) := by
  rcases own_range3 i1 with hm | hm | hm | hm
  · by_cases hs43 : ((i0 &&& (65535 : Int32)).toUInt32.toUInt16.toUInt32.toInt32) = (43 : Int32)
    · exact own_r0_m0q0 l Z a0 hw ws r0 r1 r2 r3 r4 cl_r4 h0 n0 Z0 F i0 i1 hm hs43
    · by_cases hs45 : ((i0 &&& (65535 : Int32)).toUInt32.toUInt16.toUInt32.toInt32) = (45 : Int32)
      · exact own_r0_m0q1 l Z a0 hw ws r0 r1 r2 r3 r4 cl_r4 h0 n0 Z0 F i0 i1 hm hs43 hs45
      · by_cases hs42 : ((i0 &&& (65535 : Int32)).toUInt32.toUInt16.toUInt32.toInt32) = (42 : Int32)
        · exact own_r0_m0q2 l Z a0 hw ws r0 r1 r2 r3 r4 cl_r4 h0 n0 Z0 F i0 i1 hm hs43 hs45 hs42
        · by_cases hs47 : ((i0 &&& (65535 : Int32)).toUInt32.toUInt16.toUInt32.toInt32) = (47 : Int32)
          · exact own_r0_m0q3 l Z a0 hw ws r0 r1 r2 r3 r4 cl_r4 h0 n0 Z0 F i0 i1 hm hs43 hs45 hs42 hs47
          · exact own_r0_m0q4 l Z a0 hw ws r0 r1 r2 r3 r4 cl_r4 h0 n0 Z0 F i0 i1 hm hs43 hs45 hs42 hs47
  · by_cases hs43 : (((40 : Int32) + (i0 &&& (15 : Int32))).toUInt32.toUInt16.toUInt32.toInt32) = (43 : Int32)
    · exact own_r0_m1q0 l Z a0 hw ws r0 r1 r2 r3 r4 cl_r4 h0 n0 Z0 F i0 i1 hm hs43
    · by_cases hs45 : (((40 : Int32) + (i0 &&& (15 : Int32))).toUInt32.toUInt16.toUInt32.toInt32) = (45 : Int32)
      · exact own_r0_m1q1 l Z a0 hw ws r0 r1 r2 r3 r4 cl_r4 h0 n0 Z0 F i0 i1 hm hs43 hs45
      · by_cases hs42 : (((40 : Int32) + (i0 &&& (15 : Int32))).toUInt32.toUInt16.toUInt32.toInt32) = (42 : Int32)
        · exact own_r0_m1q2 l Z a0 hw ws r0 r1 r2 r3 r4 cl_r4 h0 n0 Z0 F i0 i1 hm hs43 hs45 hs42
        · by_cases hs47 : (((40 : Int32) + (i0 &&& (15 : Int32))).toUInt32.toUInt16.toUInt32.toInt32) = (47 : Int32)
          · exact own_r0_m1q3 l Z a0 hw ws r0 r1 r2 r3 r4 cl_r4 h0 n0 Z0 F i0 i1 hm hs43 hs45 hs42 hs47
          · exact own_r0_m1q4 l Z a0 hw ws r0 r1 r2 r3 r4 cl_r4 h0 n0 Z0 F i0 i1 hm hs43 hs45 hs42 hs47
  · rcases own_range3 i0 with hj | hj | hj | hj
    · exact own_r0_m2j0 l Z a0 hw ws r0 r1 r2 r3 r4 cl_r4 h0 n0 Z0 F i0 i1 hm hj
    · exact own_r0_m2j1 l Z a0 hw ws r0 r1 r2 r3 r4 cl_r4 h0 n0 Z0 F i0 i1 hm hj
    · exact own_r0_m2j2 l Z a0 hw ws r0 r1 r2 r3 r4 cl_r4 h0 n0 Z0 F i0 i1 hm hj
    · exact own_r0_m2j3 l Z a0 hw ws r0 r1 r2 r3 r4 cl_r4 h0 n0 Z0 F i0 i1 hm hj
  · rcases own_range3 i0 with hj | hj | hj | hj
    · exact own_r0_m3j0 l Z a0 hw ws r0 r1 r2 r3 r4 cl_r4 h0 n0 Z0 F i0 i1 hm hj
    · exact own_r0_m3j1 l Z a0 hw ws r0 r1 r2 r3 r4 cl_r4 h0 n0 Z0 F i0 i1 hm hj
    · exact own_r0_m3j2 l Z a0 hw ws r0 r1 r2 r3 r4 cl_r4 h0 n0 Z0 F i0 i1 hm hj
    · exact own_r0_m3j3 l Z a0 hw ws r0 r1 r2 r3 r4 cl_r4 h0 n0 Z0 F i0 i1 hm hj
set_option maxRecDepth 65536 in
set_option maxHeartbeats 40000000 in
theorem own_comes {Post : Tables → Env → Array Value → State → Outcome → State → Prop} (hpost : ∀ tb e args s v u, (limb_1_1.after args s (.returned v) u = true ∧ limb_1_2.after args s (.returned v) u = true ∧ True) → FrameEnd s (.returned v) u (Jvm.fieldLocs frame_1_writes args s ++ Jvm.arrayLocs frame_1_arrays args s ++ Jvm.staticLocs frame_1_statics s) 16 128 → Post tb e args s (.returned v) u) :
    ArmFor flags0 classFile x code maxLocals ret World_1 tables_1 room_1 Calls_1 rest_1 Pre_1 Post := by
  intro l hfl _ _ p e ha hc hk s m args below hf hA hF happ hP
  obtain ⟨hcalls, hrest, hpre⟩ := hP
  obtain ⟨-, -, -, hnamed, -, -, -, hat⟩ := (Spec.applies_iff hf).mp happ
  obtain ⟨hg, hn⟩ := and_e (Cond.before_iff.mp (show (Jvm.Cond.and given_1 narrow_1).before args s = true from hpre))
  obtain ⟨gl1, gr1⟩ := and_e hg
  obtain ⟨gl2, gr2⟩ := and_e gr1
  obtain ⟨w0, w1, rfl⟩ : ∃ w0 w1 : Value, args = #[w0, w1] := by
    have hs : args.size = 2 := by simpa [Cond.value, given_1] using gl1
    obtain ⟨L⟩ := args
    match L, hs with
    | [w0, w1], _ => exact ⟨w0, w1, rfl⟩
  have hw := fun d (hd : d ∈ tables_1) => atoms_spec (ws := Jvm.Cond.code x code maxLocals ret :: tables_1) hat d (List.mem_cons_of_mem _ hd)
  obtain ⟨i0, ei0⟩ := is_v gl2
  obtain rfl : w0 = (.int i0) := Option.some.inj ei0
  obtain ⟨i1, ei1⟩ := is_v gr2
  obtain rfl : w1 = (.int i1) := Option.some.inj ei1
  obtain ⟨nl1, nr1⟩ := and_e hn
  obtain ⟨nl2, nr2⟩ := and_e nr1
  obtain ⟨nl3, nr3⟩ := and_e nr2
  obtain ⟨nl4, nr4⟩ := and_e nr3
  obtain ⟨nl5, nr5⟩ := and_e nr4
  obtain ⟨nl6, nr6⟩ := and_e nr5
  obtain ⟨nl7, nr7⟩ := and_e nr6
  obtain ⟨nl8, nr8⟩ := and_e nr7
  obtain ⟨nl9, nr9⟩ := and_e nr8
  obtain ⟨nl10, nr10⟩ := and_e nr9
  obtain ⟨nl11, nr11⟩ := and_e nr10
  obtain ⟨nl12, nr12⟩ := and_e nr11
  obtain ⟨nl13, nr13⟩ := and_e nr12
  obtain ⟨r0, ev_r0⟩ := exa_v nl3
  have S_r0 : Sta s s.heap "dragoman/Operator" "ADD" "Ldragoman/Operator;" (.ref r0) := Sta.start ev_r0 (Or.inr ⟨(hw _ (List.mem_of_getElem? (i := 3) rfl)), (hw _ (List.mem_of_getElem? (i := 7) rfl))⟩)
  have E_r0 : Exa s s.heap r0 "dragoman/Operator" := Exa.start ev_r0 nl3
  obtain ⟨r1, ev_r1⟩ := exa_v nl6
  have S_r1 : Sta s s.heap "dragoman/Operator" "SUBTRACT" "Ldragoman/Operator;" (.ref r1) := Sta.start ev_r1 (Or.inr ⟨(hw _ (List.mem_of_getElem? (i := 3) rfl)), (hw _ (List.mem_of_getElem? (i := 15) rfl))⟩)
  have E_r1 : Exa s s.heap r1 "dragoman/Operator" := Exa.start ev_r1 nl6
  obtain ⟨r2, ev_r2⟩ := exa_v nl9
  have S_r2 : Sta s s.heap "dragoman/Operator" "MULTIPLY" "Ldragoman/Operator;" (.ref r2) := Sta.start ev_r2 (Or.inr ⟨(hw _ (List.mem_of_getElem? (i := 3) rfl)), (hw _ (List.mem_of_getElem? (i := 16) rfl))⟩)
  have E_r2 : Exa s s.heap r2 "dragoman/Operator" := Exa.start ev_r2 nl9
  obtain ⟨r3, ev_r3⟩ := exa_v nl12
  have S_r3 : Sta s s.heap "dragoman/Operator" "DIVIDE" "Ldragoman/Operator;" (.ref r3) := Sta.start ev_r3 (Or.inr ⟨(hw _ (List.mem_of_getElem? (i := 3) rfl)), (hw _ (List.mem_of_getElem? (i := 17) rfl))⟩)
  have E_r3 : Exa s s.heap r3 "dragoman/Operator" := Exa.start ev_r3 nl12
  obtain ⟨r4, ev_r4⟩ := arr_v nl1
  have S_r4 : Sta s s.heap "dragoman/Operator" "ALL" "[Ldragoman/Operator;" (.ref r4) := Sta.start ev_r4 (Or.inr ⟨(hw _ (List.mem_of_getElem? (i := 3) rfl)), (hw _ (List.mem_of_getElem? (i := 6) rfl))⟩)
  obtain ⟨cl_r4, Ar0_r4⟩ := Arr.start ev_r4 nl1
  have Ar_r4 : Arr s s.heap r4 cl_r4 (.object "dragoman/Operator") := Ar0_r4
  have Sz_r4 : cl_r4.slots.size = (4 : Int32).toNatClampNeg := own_len (own_eqI nl2 rfl) ev_r4 Ar_r4
  have El_r4_0 : cl_r4.slots[(0 : Int32).toNatClampNeg]? = some (.ref r0) := own_elem (own_eqR nl4 ev_r0) ev_r4 Ar_r4
  have F_r0_symbol : Fld s s.heap r0 "dragoman/Operator" "symbol" "C" (.int (43 : Int32)) := Fld.start ((fld_at ev_r0).symm.trans (own_eqI nl5 rfl))
  have El_r4_1 : cl_r4.slots[(1 : Int32).toNatClampNeg]? = some (.ref r1) := own_elem (own_eqR nl7 ev_r1) ev_r4 Ar_r4
  have F_r1_symbol : Fld s s.heap r1 "dragoman/Operator" "symbol" "C" (.int (45 : Int32)) := Fld.start ((fld_at ev_r1).symm.trans (own_eqI nl8 rfl))
  have El_r4_2 : cl_r4.slots[(2 : Int32).toNatClampNeg]? = some (.ref r2) := own_elem (own_eqR nl10 ev_r2) ev_r4 Ar_r4
  have F_r2_symbol : Fld s s.heap r2 "dragoman/Operator" "symbol" "C" (.int (42 : Int32)) := Fld.start ((fld_at ev_r2).symm.trans (own_eqI nl11 rfl))
  have El_r4_3 : cl_r4.slots[(3 : Int32).toNatClampNeg]? = some (.ref r3) := own_elem (own_eqR nl13 ev_r3) ev_r4 Ar_r4
  have F_r3_symbol : Fld s s.heap r3 "dragoman/Operator" "symbol" "C" (.int (47 : Int32)) := Fld.start ((fld_at ev_r3).symm.trans (own_eqI nr13 rfl))
  have ne_r0_r1 : r0 ≠ r1 := own_ne F_r0_symbol F_r1_symbol (by simp)
  have ne_r0_r2 : r0 ≠ r2 := own_ne F_r0_symbol F_r2_symbol (by simp)
  have ne_r0_r3 : r0 ≠ r3 := own_ne F_r0_symbol F_r3_symbol (by simp)
  have ne_r1_r2 : r1 ≠ r2 := own_ne F_r1_symbol F_r2_symbol (by simp)
  have ne_r1_r3 : r1 ≠ r3 := own_ne F_r1_symbol F_r3_symbol (by simp)
  have ne_r2_r3 : r2 ≠ r3 := own_ne F_r2_symbol F_r3_symbol (by simp)
  have F : own_W s s.heap r0 r1 r2 r3 r4 cl_r4 := ⟨S_r0, E_r0, S_r1, E_r1, S_r2, E_r2, S_r3, E_r3, S_r4, Ar_r4, Sz_r4, El_r4_0, F_r0_symbol, El_r4_1, F_r1_symbol, El_r4_2, F_r2_symbol, El_r4_3, F_r3_symbol, ne_r0_r1, ne_r0_r2, ne_r0_r3, ne_r1_r2, ne_r1_r3, ne_r2_r3⟩
  obtain ⟨n, o, h1, h2, h3, _, L, rfl, ⟨rfl, N⟩, hq⟩ := own_r0 l s _ hw tables_1 r0 r1 r2 r3 r4 cl_r4 s.heap s.heap.size (Nat.le_refl _) F i0 i1 p e ha hc hk s m _ below hf ((Spec.applies_iff_loose hf).mp happ).1 ⟨rfl, State.Warmed39.refl s, rfl⟩ trivial
  refine ⟨n, _, h1, h2, h3, hpost _ _ _ _ _ _ ⟨Cond.after_iff.mpr rfl, Cond.after_iff.mpr (eq_i res_at (Term.int_eval (1)) rfl), trivial⟩ ⟨hq.1, hq.2.1, (hq.2.2.sift fun y hy => Or.inr (N y hy)).mono (by decide) (by decide)⟩⟩
theorem main_1_1 : Claimed_1_1 := own_comes fun _ _ _ _ _ _ h hF => ⟨h.1, hF⟩
theorem main_1_2 : Claimed_1_2 := own_comes fun _ _ _ _ _ _ h hF => ⟨h.2.1, hF⟩
end Jvm.Pilot.@@N@@
namespace Jvm.Pilot.@@N@@
open Jvm Jvm.ClassFile Sem Op Lib Jvm.Free Jvm.Stand Jvm.Pilot.@@N@@.Jvm.D
/-! MADE BY PROGRAM (witnessworld.py) out of the Statement's table words and the real class files: 13 classes; the members and pool entries that the words name. The judged class is class 1, her method 1. -/
namespace start1
open Jvm.ClassFile
def u (s : String) : CpInfo := .utf8 (stringToUtf16 s)
/-- a pool by its gaps: so many unusable entries, then the entry; so many at the end -/
def gap : Nat → List CpInfo → List CpInfo
  | 0, r => r
  | n + 1, r => .unusable :: gap n r
def poolList (es : List (Nat × CpInfo)) (last : Nat) : List CpInfo := es.foldr (fun e r => gap e.1 (e.2 :: r)) (gap last [])
def pool (es : List (Nat × CpInfo)) (last : Nat) : Array CpInfo := ⟨poolList es last⟩
def fileOf (pool : Array CpInfo) (this : Nat) (attrs : Array Attribute := #[]) (ms : Array MethodInfo := #[]) (fl : Nat := 33) (sup : Nat := 0) (ifs : Array Nat := #[]) (fds : Array FieldInfo := #[]) : ClassFile where
  minorVersion := 0
  majorVersion := 65
  constantPool := pool
  accessFlags := fl
  thisClass := this
  superClass := sup
  interfaces := ifs
  fields := fds
  methods := ms
  attributes := attrs
def plain (name : String) (sup : Option ClassId) : Class where
  name := name
  kind := .ordinary
  loader := none
  accessFlags := 33
  super := sup
  interfaces := #[]
  cf := none
  fields := #[]
  methods := #[]
  instanceTypes := #[]
  staticTypes := #[]
  resolved := #[]
  callSites := []
  init := .initialized
  statics := none
  mirror := none

def pool0 : Array CpInfo := pool [(5, u "<init>"), (0, u "()V"), (1, .class_ 10), (1, u "java/lang/Object")] 113

def k0m0 : Method := { name := "<init>", desc := "()V", sig := { parameters := [], returnType := none }, accessFlags := 1, code := none }
/-- java/lang/Object -/
def k0 : Class := { plain "java/lang/Object" none with
  accessFlags := 33
  interfaces := #[]
  cf := some (fileOf pool0 8 #[] #[{ accessFlags := 1, nameIndex := 5, descriptorIndex := 6, attributes := #[] }] 33 0 #[] #[])
  fields := #[]
  methods := #[k0m0]
  instanceTypes := #[]
  staticTypes := #[]
  resolved := Array.replicate 124 none
  statics := none }

def pool1 : Array CpInfo := pool [(2, .class_ 4), (1, u "java/lang/Object"), (0, u "<init>"), (0, u "()V"), (0, .integer 65535), (0, .methodref 9 10), (0, .class_ 11), (0, .nameAndType 12 13), (0, u "dragoman/Operator"), (0, u "bySymbol"), (0, u "(C)Ldragoman/Operator;"), (0, .methodref 15 16), (0, .class_ 17), (0, .nameAndType 18 13), (0, u "dragoman/OperatorBySymbolPinLaw"), (0, u "expected"), (0, .fieldref 9 20), (0, .nameAndType 21 22), (0, u "ADD"), (0, u "Ldragoman/Operator;"), (0, .fieldref 9 24), (0, .nameAndType 25 22), (0, u "SUBTRACT"), (0, .fieldref 9 27), (0, .nameAndType 28 22), (0, u "MULTIPLY"), (0, .fieldref 9 30), (0, .nameAndType 31 22), (0, u "DIVIDE"), (2, u "law"), (0, u "(II)Z")] 3

def k1m0 : Method := { name := "<init>", desc := "()V", sig := { parameters := [], returnType := none }, accessFlags := 1, code := none }
def k1c1 : Code := { maxStack := 4, maxLocals := 6, code := code, exceptionTable := #[], attributes := #[] }
def k1m1 : Method := { name := "law", desc := "(II)Z", sig := { parameters := [.int, .int], returnType := some .boolean }, accessFlags := 9, code := some k1c1 }
def k1c2 : Code := { maxStack := 2, maxLocals := 1, code := method_3_code, exceptionTable := #[], attributes := #[] }
def k1m2 : Method := { name := "expected", desc := "(C)Ldragoman/Operator;", sig := { parameters := [.char], returnType := some (.object "dragoman/Operator") }, accessFlags := 10, code := some k1c2 }
/-- dragoman/OperatorBySymbolPinLaw -/
def k1 : Class := { plain "dragoman/OperatorBySymbolPinLaw" (some 0) with
  accessFlags := 49
  interfaces := #[]
  cf := some (fileOf pool1 15 #[] #[{ accessFlags := 1, nameIndex := 5, descriptorIndex := 6, attributes := #[] }, { accessFlags := 9, nameIndex := 34, descriptorIndex := 35, attributes := #[] }, { accessFlags := 10, nameIndex := 18, descriptorIndex := 13, attributes := #[] }] 49 2 #[] #[])
  fields := #[]
  methods := #[k1m0, k1m1, k1m2]
  instanceTypes := #[]
  staticTypes := #[]
  resolved := Array.replicate 39 none
  statics := none }

def pool2 : Array CpInfo := pool [(1, .class_ 2), (0, u "java/lang/constant/Constable"), (0, .class_ 4), (0, u "java/lang/Object")] 6

/-- java/lang/constant/Constable -/
def k2 : Class := { plain "java/lang/constant/Constable" (some 0) with
  accessFlags := 1537
  interfaces := #[]
  cf := some (fileOf pool2 1 #[] #[] 1537 3 #[] #[])
  fields := #[]
  methods := #[]
  instanceTypes := #[]
  staticTypes := #[]
  resolved := Array.replicate 11 none
  statics := none }

def pool3 : Array CpInfo := pool [(1, .class_ 2), (0, u "java/lang/Comparable"), (0, .class_ 4), (0, u "java/lang/Object")] 7

/-- java/lang/Comparable -/
def k3 : Class := { plain "java/lang/Comparable" (some 0) with
  accessFlags := 1537
  interfaces := #[]
  cf := some (fileOf pool3 1 #[] #[] 1537 3 #[] #[])
  fields := #[]
  methods := #[]
  instanceTypes := #[]
  staticTypes := #[]
  resolved := Array.replicate 12 none
  statics := none }

def pool4 : Array CpInfo := pool [(1, .class_ 2), (0, u "java/io/Serializable"), (0, .class_ 4), (0, u "java/lang/Object")] 2

/-- java/io/Serializable -/
def k4 : Class := { plain "java/io/Serializable" (some 0) with
  accessFlags := 1537
  interfaces := #[]
  cf := some (fileOf pool4 1 #[] #[] 1537 3 #[] #[])
  fields := #[]
  methods := #[]
  instanceTypes := #[]
  staticTypes := #[]
  resolved := Array.replicate 7 none
  statics := none }

def pool5 : Array CpInfo := pool [(2, .class_ 4), (1, u "java/lang/Enum"), (0, u "name"), (0, u "Ljava/lang/String;"), (2, u "ordinal"), (0, u "I"), (1, .class_ 14), (1, u "java/lang/Object"), (4, u "hash"), (86, .class_ 108), (1, u "java/lang/Enum$EnumDesc"), (2, .class_ 112), (0, u "java/lang/constant/Constable"), (0, .class_ 114), (0, u "java/lang/Comparable"), (0, .class_ 116), (0, u "java/io/Serializable")] 87

/-- java/lang/Enum -/
def k5 : Class := { plain "java/lang/Enum" (some 0) with
  accessFlags := 1057
  interfaces := #[2, 3, 4]
  cf := some (fileOf pool5 2 #[.nestMembers #[106]] #[] 1057 12 #[111, 113, 115] #[{ accessFlags := 18, nameIndex := 5, descriptorIndex := 6, attributes := #[] }, { accessFlags := 18, nameIndex := 9, descriptorIndex := 10, attributes := #[] }, { accessFlags := 2, nameIndex := 19, descriptorIndex := 10, attributes := #[] }])
  fields := #[{ name := "name", type := (.object "java/lang/String"), accessFlags := 18, slot := 0, constantValue := 0 }, { name := "ordinal", type := .int, accessFlags := 18, slot := 1, constantValue := 0 }, { name := "hash", type := .int, accessFlags := 2, slot := 2, constantValue := 0 }]
  methods := #[]
  instanceTypes := #[(.object "java/lang/String"), .int, .int]
  staticTypes := #[]
  resolved := Array.replicate 204 none
  statics := none }

def pool6 : Array CpInfo := pool [(1, .class_ 2), (0, u "dragoman/Operator"), (2, u "ADD"), (0, u "Ldragoman/Operator;"), (2, u "SUBTRACT"), (2, u "MULTIPLY"), (2, u "DIVIDE"), (2, u "$VALUES"), (0, u "[Ldragoman/Operator;"), (6, .class_ 28), (1, u "java/lang/Enum"), (6, .fieldref 1 36), (0, .nameAndType 37 38), (0, u "symbol"), (0, u "C"), (2, u "precedence"), (0, u "I"), (0, .fieldref 1 44), (0, .nameAndType 45 19), (0, u "ALL"), (66, u "bySymbol"), (0, u "(C)Ldragoman/Operator;")] 11

def k6c0 : Code := { maxStack := 2, maxLocals := 5, code := prog_26_method_4_code, exceptionTable := #[], attributes := #[] }
def k6m0 : Method := { name := "bySymbol", desc := "(C)Ldragoman/Operator;", sig := { parameters := [.char], returnType := some (.object "dragoman/Operator") }, accessFlags := 8, code := some k6c0 }
/-- dragoman/Operator -/
def k6 : Class := { plain "dragoman/Operator" (some 5) with
  accessFlags := 16432
  interfaces := #[]
  cf := some (fileOf pool6 1 #[] #[{ accessFlags := 8, nameIndex := 112, descriptorIndex := 113, attributes := #[] }] 16432 26 #[] #[{ accessFlags := 16409, nameIndex := 5, descriptorIndex := 6, attributes := #[] }, { accessFlags := 16409, nameIndex := 9, descriptorIndex := 6, attributes := #[] }, { accessFlags := 16409, nameIndex := 12, descriptorIndex := 6, attributes := #[] }, { accessFlags := 16409, nameIndex := 15, descriptorIndex := 6, attributes := #[] }, { accessFlags := 26, nameIndex := 45, descriptorIndex := 19, attributes := #[] }, { accessFlags := 18, nameIndex := 37, descriptorIndex := 38, attributes := #[] }, { accessFlags := 18, nameIndex := 41, descriptorIndex := 42, attributes := #[] }, { accessFlags := 4122, nameIndex := 18, descriptorIndex := 19, attributes := #[] }])
  fields := #[{ name := "ADD", type := (.object "dragoman/Operator"), accessFlags := 16409, slot := 0, constantValue := 0 }, { name := "SUBTRACT", type := (.object "dragoman/Operator"), accessFlags := 16409, slot := 1, constantValue := 0 }, { name := "MULTIPLY", type := (.object "dragoman/Operator"), accessFlags := 16409, slot := 2, constantValue := 0 }, { name := "DIVIDE", type := (.object "dragoman/Operator"), accessFlags := 16409, slot := 3, constantValue := 0 }, { name := "ALL", type := (.array (.object "dragoman/Operator")), accessFlags := 26, slot := 4, constantValue := 0 }, { name := "symbol", type := .char, accessFlags := 18, slot := 3, constantValue := 0 }, { name := "precedence", type := .int, accessFlags := 18, slot := 4, constantValue := 0 }, { name := "$VALUES", type := (.array (.object "dragoman/Operator")), accessFlags := 4122, slot := 5, constantValue := 0 }]
  methods := #[k6m0]
  instanceTypes := #[(.object "java/lang/String"), .int, .int, .char, .int]
  staticTypes := #[(.object "dragoman/Operator"), (.object "dragoman/Operator"), (.object "dragoman/Operator"), (.object "dragoman/Operator"), (.array (.object "dragoman/Operator")), (.array (.object "dragoman/Operator"))]
  resolved := Array.replicate 125 none
  statics := some 0 }

def pool7 : Array CpInfo := pool [(1, u "java/lang/Cloneable"), (0, .class_ 1), (0, u "java/lang/Object"), (0, .class_ 3)] 3

/-- java/lang/Cloneable -/
def k7 : Class := { plain "java/lang/Cloneable" (some 0) with
  accessFlags := 1537
  interfaces := #[]
  cf := some (fileOf pool7 2 #[] #[] 1537 4 #[] #[])
  fields := #[]
  methods := #[]
  instanceTypes := #[]
  staticTypes := #[]
  resolved := Array.replicate 8 none
  statics := none }

/-- the primitive byte -/
def k8 : Class := { plain "byte" none with kind := .primitive 'B', accessFlags := 0x411 }
/-- [B -/
def k9 : Class := { plain "[B" (some 0) with kind := .array 8 .byte, interfaces := #[7, 4], accessFlags := 1041 }

/-- the primitive char -/
def k10 : Class := { plain "char" none with kind := .primitive 'C', accessFlags := 0x411 }
/-- [C -/
def k11 : Class := { plain "[C" (some 0) with kind := .array 10 .char, interfaces := #[7, 4], accessFlags := 1041 }

/-- [Ldragoman/Operator; -/
def k12 : Class := { plain "[Ldragoman/Operator;" (some 0) with kind := .array 6 (.object "dragoman/Operator"), interfaces := #[7, 4], accessFlags := 1041 }

def heap : Heap := #[{ cls := 6, slots := #[.ref 2, .ref 3, .ref 4, .ref 5, .ref 1, .null], vm := .statics 6 },
  { cls := 12, slots := #[.ref 2, .ref 3, .ref 4, .ref 5], vm := .none },
  { cls := 6, slots := #[.null, .int 0, .int 0, .int 43, .int 0], vm := .none },
  { cls := 6, slots := #[.null, .int 0, .int 0, .int 45, .int 0], vm := .none },
  { cls := 6, slots := #[.null, .int 0, .int 0, .int 42, .int 0], vm := .none },
  { cls := 6, slots := #[.null, .int 0, .int 0, .int 47, .int 0], vm := .none }]
def classes : Array Class := #[k0, k1, k2, k3, k4, k5, k6, k7, k8, k9, k10, k11, k12]
def interned : List (Array UInt16 × Addr) := []
def slotsUsed : Nat := 30
def theMethod : MethodId := ⟨1, 1⟩
def args0 : Array Value := #[.int 3, .int 4]
def aboutOver (below : List Frame) : State where
  vm := { classes := classes, interned := interned.toArray }
  heap := heap
  slotsUsed := slotsUsed
  threads := #[{ frames := .invoking theMethod args0 :: below }]
def below0 : List Frame := [.native { method := ⟨0, 0⟩, args := #[] }]
def about1 : State := aboutOver below0
def p0 : Program := .bare "" "" ""
def e0 : Env := launch0.env 0 0 0
theorem w_frames : about1.frames = Frame.invoking theMethod args0 :: below0 := rfl
set_option maxRecDepth 65536 in
theorem w_args : argsFit about1.vm theMethod args0 = true := by decide +kernel
set_option maxRecDepth 65536 in
theorem w_heap : heapFits about1 = true := by decide +kernel
set_option maxRecDepth 65536 in
theorem w_runnable : about1.curStatus? = some .runnable := by decide +kernel
set_option maxRecDepth 65536 in
theorem w_alone : about1.alone = true := by decide +kernel
set_option maxRecDepth 65536 in
theorem w_named : about1.methodNamed? x = some theMethod := by decide +kernel
set_option maxRecDepth 65536 in
theorem w_hears : about1.hears theMethod below0 = true := by decide +kernel
set_option maxRecDepth 65536 in
theorem w_ripe : about1.ripe theMethod args0 below0 = true := by decide +kernel
theorem w_running : about1.status = .running := rfl
set_option maxRecDepth 65536 in
theorem w_room : about1.hasRoom e0.platform room_1 = true :=
  launch0.hasRoom_least _ room_1 (by decide +kernel) (by decide +kernel) (by decide +kernel) (by decide +kernel) (by decide +kernel) (by decide +kernel)
theorem allAtoms_all (ts : List Jvm.Cond) (a : Array Jvm.Value) (st : Jvm.State) : (allAtoms ts).before a st = ts.all (fun c => c.before a st) := by
  induction ts with
  | nil => rfl
  | cons c t ih =>
    show (Jvm.Cond.and c (allAtoms t)).before a st = _
    rw [Jvm.Cond.before_and, ih, List.all_cons]
def words1 : List Jvm.Cond := Jvm.Cond.code x code maxLocals ret :: tables_1
/-- a 'code' word, met by the world's own term for the bytes: nothing is compared byte by byte -/
theorem code_word {y : MethodName} {bytes : ByteArray} {mx : Nat} {rt : Option FieldType} {a : Array Value} {s : State} {m : MethodId} {meth : Method} {c : Code} (h1 : s.methodNamed? y = some m) (h2 : s.vm.method? m = some meth) (h3 : meth.code = some c) (h4 : c.code = bytes)
    (h5 : (c.maxLocals == mx && c.exceptionTable.isEmpty && decide (c.maxStack ≤ mostOperands) && decide (meth.sig.returnType = rt) && !meth.locks && decide (parseMethodDescriptor y.desc = some meth.sig)) = true) : (Jvm.Cond.code y bytes mx rt).before a s = true := by
  simp only [Bool.and_eq_true, beq_iff_eq, Bool.not_eq_true', decide_eq_true_eq] at h5
  obtain ⟨⟨⟨⟨⟨g1, g2⟩, g3⟩, g4⟩, g5⟩, g6⟩ := h5
  simp [Cond.before, Cond.holds, Cond.value, h1, h2, h3, h4, g1, g2, g3, g4, g5, g6]
def isCode : Jvm.Cond → Bool
  | .code _ _ _ _ => true
  | _ => false
theorem all_split {L : List Jvm.Cond} {P : Jvm.Cond → Bool} (h1 : L.all (fun c => isCode c || P c) = true) (h2 : ∀ c ∈ L.filter isCode, P c = true) : L.all P = true := by
  refine List.all_eq_true.mpr fun c hc => ?_
  have h := List.all_eq_true.mp h1 c hc
  rcases Bool.eq_false_or_eq_true (isCode c) with hi | hi
  · exact h2 c (List.mem_filter.mpr ⟨hc, hi⟩)
  · simpa [hi] using h
set_option maxRecDepth 65536 in
theorem w_c0 : (Jvm.Cond.code x code maxLocals ret).before args0 about1 = true := code_word (m := ⟨1, 1⟩) (meth := k1m1) (c := k1c1) (by decide +kernel) rfl rfl rfl (by decide +kernel)
set_option maxRecDepth 65536 in
theorem w_c1 : (Jvm.Cond.code ({ cls := "dragoman/Operator", name := "bySymbol", desc := "(C)Ldragoman/Operator;" } : Jvm.MethodName) prog_26_method_4_code (5 : Nat) (Option.some (Jvm.ClassFile.FieldType.object "dragoman/Operator"))).before args0 about1 = true := code_word (m := ⟨6, 0⟩) (meth := k6m0) (c := k6c0) (by decide +kernel) rfl rfl rfl (by decide +kernel)
set_option maxRecDepth 65536 in
theorem w_c2 : (Jvm.Cond.code ({ cls := "dragoman/OperatorBySymbolPinLaw", name := "expected", desc := "(C)Ldragoman/Operator;" } : Jvm.MethodName) method_3_code (1 : Nat) (Option.some (Jvm.ClassFile.FieldType.object "dragoman/Operator"))).before args0 about1 = true := code_word (m := ⟨1, 2⟩) (meth := k1m2) (c := k1c2) (by decide +kernel) rfl rfl rfl (by decide +kernel)
def codes1 : List Jvm.Cond := [Jvm.Cond.code x code maxLocals ret, Jvm.Cond.code ({ cls := "dragoman/Operator", name := "bySymbol", desc := "(C)Ldragoman/Operator;" } : Jvm.MethodName) prog_26_method_4_code (5 : Nat) (Option.some (Jvm.ClassFile.FieldType.object "dragoman/Operator")), Jvm.Cond.code ({ cls := "dragoman/OperatorBySymbolPinLaw", name := "expected", desc := "(C)Ldragoman/Operator;" } : Jvm.MethodName) method_3_code (1 : Nat) (Option.some (Jvm.ClassFile.FieldType.object "dragoman/Operator"))]
set_option maxRecDepth 65536 in
theorem codes_eq : words1.filter isCode = codes1 := rfl
theorem w_codes : ∀ c ∈ words1.filter isCode, c.before args0 about1 = true := by
  rw [codes_eq]
  intro c hc
  simp only [codes1, List.mem_cons, List.not_mem_nil, or_false] at hc
  rcases hc with rfl | rfl | rfl
  · exact w_c0
  · exact w_c1
  · exact w_c2
set_option maxRecDepth 65536 in
theorem w_t1 : words1.all (fun c => isCode c || c.before args0 about1) = true := by decide +kernel
theorem w_tables : (allAtoms (Jvm.Cond.code x code maxLocals ret :: tables_1)).before args0 about1 = true := by
  rw [allAtoms_all]
  show words1.all (fun c => c.before args0 about1) = true
  refine all_split ?_ w_codes
  rw [w_t1]
set_option maxRecDepth 65536 in
theorem w_case : (Jvm.Cond.and given_1 narrow_1).before args0 about1 = true := by decide +kernel
theorem w_applies : (headSpec (Jvm.Cond.code x code maxLocals ret :: tables_1) room_1).applies x e0.platform about1 = true :=
  (Spec.applies_iff w_frames).mpr ⟨w_running, w_runnable, w_alone, w_named, w_hears, w_ripe, w_room, w_tables⟩
theorem atStart : AtStart classFile x code maxLocals ret World_1 tables_1 room_1 Calls_1 rest_1 Pre_1 launch0 p0 e0 about1 theMethod args0 below0 :=
  ⟨lists_1, trivial, launch0.admits_env _ _ _, launch0.least_env, fairChoices_fair.cas, fairChoices_fair.clock, w_frames, w_args, w_heap, w_applies, trivial, trivial, w_case⟩
end start1
theorem witness_1 : WitnessClaimed_1 := ⟨start1.p0, start1.e0, start1.about1, start1.theMethod, start1.args0, start1.below0, start1.atStart⟩
end Jvm.Pilot.@@N@@
