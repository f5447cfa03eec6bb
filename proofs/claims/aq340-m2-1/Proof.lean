import JvmDerived
import JvmDerived.Pilot.@@N@@Statement
import JvmDerived.Pilot.@@N@@Code
set_option linter.unusedVariables false
set_option linter.unusedSimpArgs false
namespace Jvm.RoadKit
open Sem ClassFile Op Lib Jvm.Stand Jvm.Free Jvm.LawKit
section New
variable {p : Program} {l : Launch} {e : Env} {R : Room} {s : State} {m : MethodId} {args : Array Value} {below : List Frame} {meth : Method} {c : Code} {T : State} {locs : List Loc} {cells slots : Nat}
theorem retI (X : Stand p l e R s m args below meth c T locs cells slots) (hx : p.tables.exec = Jvm.exec) {pc : Nat} {Ls : Array Slot} {z : Int32} {rest : List Value} (hret : meth.sig.returnType = some .int) (hd : decode c.code pc = .ok (.ireturn, 1)) {fs : List Frame}
    (hl : ∀ (f : JFrame) (acts : List Action), f.method = m → f.locked = none → f.entered = [] → (doReturn e (T.setTop f) acts (some (.int z))).1 = T.setFrames fs) : Steps p.tables e below (T.setTop (mkF m pc Ls (.int z :: rest))) (T.setFrames fs) := by
  have hm' : T.vm.method? m = some meth := X.method'
  have hn : narrow .int (.int z) = .int z := rfl
  show Steps p.tables e below (T.setTop { method := m, pc := pc, locals := Ls, stack := _ :: rest, locked := none }) _
  jvm_step X.here [X.here.top, hx, hd, hm', hret, hn]
  first | (intro acts; rw [hl _ acts rfl rfl rfl]) | rw [hl _ _ rfl rfl rfl]
  exact Steps.refl _
end New
end Jvm.RoadKit
namespace Jvm.Pilot.@@N@@
open Jvm Jvm.ClassFile Sem Op Lib Jvm.Free Jvm.Stand Jvm.LawKit Jvm.RoadKit Bundle Jvm.Pilot.@@N@@.Jvm.D
/-! the case's words as plain facts -/
theorem own_eqI {args : Array Value} {first s : State} {o : Option Outcome} {idx : List Nat} {a b : Term} {z : Int32} (h : (Jvm.Cond.eq a b).value args first o s idx = some true) (hb : b.eval args first o idx s = some (.int z)) : a.eval args first o idx s = some (.int z) := by
  cases ha : a.eval args first o idx s with
  | none => simp [Cond.value, ha] at h
  | some x => cases x <;> simp [Cond.value, ha, hb] at h ⊢; exact h
theorem own_eqR {args : Array Value} {first s : State} {o : Option Outcome} {idx : List Nat} {a b : Term} {z : Addr} (h : (Jvm.Cond.eq a b).value args first o s idx = some true) (hb : b.eval args first o idx s = some (.ref z)) : a.eval args first o idx s = some (.ref z) := by
  cases ha : a.eval args first o idx s with
  | none => simp [Cond.value, ha] at h
  | some x => cases x <;> simp [Cond.value, ha, hb] at h ⊢; exact h
theorem own_ne {Z : State} {h : Heap} {a b : Addr} {C n d : String} {v w : Value} (F : Fld Z h a C n d v) (G : Fld Z h b C n d w) (hne : v ≠ w) : a ≠ b := fun e => by
  subst e
  obtain ⟨c1, cf1, k1, i1, f1, a1, a2, -, -, -, -, a7⟩ := F
  obtain ⟨c2, cf2, k2, i2, f2, b1, b2, -, -, -, -, b7⟩ := G
  cases a1.symm.trans b1
  cases a2.symm.trans b2
  exact hne (Option.some.inj (a7.symm.trans b7))
theorem own_len {args : Array Value} {s : State} {t : Term} {z : Int32} {x : Addr} {cl : Cell} {ty : FieldType} (h : (Term.length t).eval args s none [] s = some (.int z)) (ht : t.eval args s none [] s = some (.ref x)) (A : Arr s s.heap x cl ty) : cl.slots.size = z.toNatClampNeg := by
  have ha := A.fin (Vm.Alike.refl _)
  have h2 : cl.slots.size < 2 ^ 31 ∧ cl.slots.size.toInt32 = z := by simpa [Term.eval, ht, ha] using h
  rw [← h2.2]
  have := len_toInt h2.1
  unfold Int32.toNatClampNeg
  omega
theorem own_elem {args : Array Value} {s : State} {t : Term} {j : Int32} {x : Addr} {cl : Cell} {ty : FieldType} {v : Value} (h : (Term.elem t (.int j)).eval args s none [] s = some v) (ht : t.eval args s none [] s = some (.ref x)) (A : Arr s s.heap x cl ty) : cl.slots[j.toNatClampNeg]? = some v := by
  have ha := A.fin (Vm.Alike.refl _)
  have h2 : ¬ j < 0 ∧ cl.slots[j.toNatClampNeg]? = some v := by simpa [Term.eval, ht, ha] using h
  exact h2.2
def own_W (Z : State) (h : Heap) (r0 : Addr) (r1 : Addr) (r2 : Addr) (r3 : Addr) (r4 : Addr) (r5 : Addr) (r6 : Addr) (r7 : Addr) (r8 : Addr) (r0_c : Addr) (cl_r0_c : Cell) (r1_c : Addr) (cl_r1_c : Cell) (r2_c : Addr) (cl_r2_c : Cell) (r3_c : Addr) (cl_r3_c : Cell) (r4_c : Addr) (cl_r4_c : Cell) (r5_c : Addr) (cl_r5_c : Cell) (r6_c : Addr) (cl_r6_c : Cell) (r7_c : Addr) (cl_r7_c : Cell) (r8_c : Addr) (cl_r8_c : Cell) : Prop := (Sta Z h "com/example/urbana/urbana/protocol/Command" "FLUSH_UNOWNED" "Lcom/example/urbana/urbana/protocol/Command;" (.ref r0)) ∧ (Exa Z h r0 "com/example/urbana/urbana/protocol/Command") ∧ (Sta Z h "com/example/urbana/urbana/protocol/Command" "DIGEST" "Lcom/example/urbana/urbana/protocol/Command;" (.ref r1)) ∧ (Exa Z h r1 "com/example/urbana/urbana/protocol/Command") ∧ (Sta Z h "com/example/urbana/urbana/protocol/Command" "UNIQUES" "Lcom/example/urbana/urbana/protocol/Command;" (.ref r2)) ∧ (Exa Z h r2 "com/example/urbana/urbana/protocol/Command") ∧ (Sta Z h "com/example/urbana/urbana/protocol/Command" "INVALID" "Lcom/example/urbana/urbana/protocol/Command;" (.ref r3)) ∧ (Exa Z h r3 "com/example/urbana/urbana/protocol/Command") ∧ (Sta Z h "com/example/urbana/urbana/protocol/Command" "STATS" "Lcom/example/urbana/urbana/protocol/Command;" (.ref r4)) ∧ (Exa Z h r4 "com/example/urbana/urbana/protocol/Command") ∧ (Sta Z h "com/example/urbana/urbana/protocol/Command" "MG" "Lcom/example/urbana/urbana/protocol/Command;" (.ref r5)) ∧ (Exa Z h r5 "com/example/urbana/urbana/protocol/Command") ∧ (Sta Z h "com/example/urbana/urbana/protocol/Command" "GET" "Lcom/example/urbana/urbana/protocol/Command;" (.ref r6)) ∧ (Exa Z h r6 "com/example/urbana/urbana/protocol/Command") ∧ (Sta Z h "com/example/urbana/urbana/protocol/Command" "SET" "Lcom/example/urbana/urbana/protocol/Command;" (.ref r7)) ∧ (Exa Z h r7 "com/example/urbana/urbana/protocol/Command") ∧ (Sta Z h "com/example/urbana/urbana/protocol/Command" "CAS" "Lcom/example/urbana/urbana/protocol/Command;" (.ref r8)) ∧ (Exa Z h r8 "com/example/urbana/urbana/protocol/Command") ∧ (Fld Z h r0 "com/example/urbana/urbana/protocol/Command" "counts" "[I" (.ref r0_c)) ∧ (Arr Z h r0_c cl_r0_c .int) ∧ (Fld Z h r1 "com/example/urbana/urbana/protocol/Command" "counts" "[I" (.ref r1_c)) ∧ (Arr Z h r1_c cl_r1_c .int) ∧ (Fld Z h r2 "com/example/urbana/urbana/protocol/Command" "counts" "[I" (.ref r2_c)) ∧ (Arr Z h r2_c cl_r2_c .int) ∧ (Fld Z h r3 "com/example/urbana/urbana/protocol/Command" "counts" "[I" (.ref r3_c)) ∧ (Arr Z h r3_c cl_r3_c .int) ∧ (Fld Z h r4 "com/example/urbana/urbana/protocol/Command" "counts" "[I" (.ref r4_c)) ∧ (Arr Z h r4_c cl_r4_c .int) ∧ (Fld Z h r5 "com/example/urbana/urbana/protocol/Command" "counts" "[I" (.ref r5_c)) ∧ (Arr Z h r5_c cl_r5_c .int) ∧ (Fld Z h r6 "com/example/urbana/urbana/protocol/Command" "counts" "[I" (.ref r6_c)) ∧ (Arr Z h r6_c cl_r6_c .int) ∧ (Fld Z h r7 "com/example/urbana/urbana/protocol/Command" "counts" "[I" (.ref r7_c)) ∧ (Arr Z h r7_c cl_r7_c .int) ∧ (Fld Z h r8 "com/example/urbana/urbana/protocol/Command" "counts" "[I" (.ref r8_c)) ∧ (Arr Z h r8_c cl_r8_c .int) ∧ (cl_r0_c.slots.size = (1 : Int32).toNatClampNeg) ∧ (cl_r0_c.slots[(0 : Int32).toNatClampNeg]? = some (.int (3 : Int32))) ∧ (cl_r1_c.slots.size = (2 : Int32).toNatClampNeg) ∧ (cl_r1_c.slots[(0 : Int32).toNatClampNeg]? = some (.int (0 : Int32))) ∧ (cl_r1_c.slots[(1 : Int32).toNatClampNeg]? = some (.int (3 : Int32))) ∧ (cl_r2_c.slots.size = (1 : Int32).toNatClampNeg) ∧ (cl_r2_c.slots[(0 : Int32).toNatClampNeg]? = some (.int (1 : Int32))) ∧ (cl_r3_c.slots.size = (0 : Int32).toNatClampNeg) ∧ (cl_r4_c.slots.size = (0 : Int32).toNatClampNeg) ∧ (cl_r5_c.slots.size = (0 : Int32).toNatClampNeg) ∧ (cl_r6_c.slots.size = (0 : Int32).toNatClampNeg) ∧ (cl_r7_c.slots.size = (0 : Int32).toNatClampNeg) ∧ (cl_r8_c.slots.size = (0 : Int32).toNatClampNeg)
def own_Q (w : Value) (h0 : Heap) (n0 : Nat) (v : Option Value) (h : Heap) (L : List Loc) : Prop := v = some w ∧ Fr n0 L ∧ h = h0
theorem own_range (x : Int32) : ((x &&& (2147483647 : Int32)) % (9 : Int32)) = 0 ∨ ((x &&& (2147483647 : Int32)) % (9 : Int32)) = 1 ∨ ((x &&& (2147483647 : Int32)) % (9 : Int32)) = 2 ∨ ((x &&& (2147483647 : Int32)) % (9 : Int32)) = 3 ∨ ((x &&& (2147483647 : Int32)) % (9 : Int32)) = 4 ∨ ((x &&& (2147483647 : Int32)) % (9 : Int32)) = 5 ∨ ((x &&& (2147483647 : Int32)) % (9 : Int32)) = 6 ∨ ((x &&& (2147483647 : Int32)) % (9 : Int32)) = 7 ∨ ((x &&& (2147483647 : Int32)) % (9 : Int32)) = 8 := by
  have h1 := c_mask x 2147483647 31 (by decide) (by decide)
  have h2 := (c_irem (x &&& 2147483647) 9 9 (by decide)).1 (by rw [h1]; omega)
  generalize (x &&& (2147483647 : Int32)) % (9 : Int32) = k at h2 ⊢
  have a0 : (0 : Int32).toInt = 0 := by decide
  have a1 : (1 : Int32).toInt = 1 := by decide
  have a2 : (2 : Int32).toInt = 2 := by decide
  have a3 : (3 : Int32).toInt = 3 := by decide
  have a4 : (4 : Int32).toInt = 4 := by decide
  have a5 : (5 : Int32).toInt = 5 := by decide
  have a6 : (6 : Int32).toInt = 6 := by decide
  have a7 : (7 : Int32).toInt = 7 := by decide
  have a8 : (8 : Int32).toInt = 8 := by decide
  simp only [← Int32.toInt_inj, a0, a1, a2, a3, a4, a5, a6, a7, a8]
  omega
theorem own_range1 (x : Int32) : (x &&& (1 : Int32)) = 0 ∨ (x &&& (1 : Int32)) = 1 := by
  have h1 := c_mask x 1 1 (by decide) (by decide)
  generalize (x &&& (1 : Int32)) = k at h1 ⊢
  have a0 : (0 : Int32).toInt = 0 := by decide
  have a1 : (1 : Int32).toInt = 1 := by decide
  simp only [← Int32.toInt_inj, a0, a1]
  omega
theorem own_ef0_III (m : MethodId) (x0 : Int32) (x1 : Int32) (x2 : Int32) : entryFrame m #[(.int x0), (.int x1), (.int x2)] maxLocals = mkF m 0 #[.val (.int x0), .val (.int x1), .val (.int x2), .unset, .unset, .unset] [] := by first | (simp [entryFrame, mkF, argsToLocals, Value.category, maxLocals]; done) | rfl
theorem own_ef1_I (m : MethodId) (x0 : Int32) : entryFrame m #[(.int x0)] 1 = mkF m 0 #[.val (.int x0)] [] := by first | (simp [entryFrame, mkF, argsToLocals, Value.category]; done) | rfl
theorem own_d1_0 : decode method_2_code 0 = .ok (.iload_n 0, 1) := by decide +kernel
theorem own_d1_1 : decode method_2_code 1 = .ok (.ifCond .ne 7, 3) := by decide +kernel
theorem own_d1_4 : decode method_2_code 4 = .ok (.getstatic 7, 3) := by decide +kernel
theorem own_d1_7 : decode method_2_code 7 = .ok (.areturn, 1) := by decide +kernel
theorem own_pn_CommandTakesPinLaw : plainName "com/example/urbana/urbana/protocol/CommandTakesPinLaw" = true := by first | (simp [plainName, overriddenIn]; done) | decide +kernel
set_option maxRecDepth 65536 in
set_option maxHeartbeats 40000000 in
theorem own_r1_2 (l : Launch) (Z : State) (a0 : Array Value) (hw : ∀ d ∈ tables_1, d.before a0 Z = true) (ws : List Jvm.Cond) (r0 : Addr) (r1 : Addr) (r2 : Addr) (r3 : Addr) (r4 : Addr) (r5 : Addr) (r6 : Addr) (r7 : Addr) (r8 : Addr) (r0_c : Addr) (cl_r0_c : Cell) (r1_c : Addr) (cl_r1_c : Cell) (r2_c : Addr) (cl_r2_c : Cell) (r3_c : Addr) (cl_r3_c : Cell) (r4_c : Addr) (cl_r4_c : Cell) (r5_c : Addr) (cl_r5_c : Cell) (r6_c : Addr) (cl_r6_c : Cell) (r7_c : Addr) (cl_r7_c : Cell) (r8_c : Addr) (cl_r8_c : Cell) (h0 : Heap) (n0 : Nat) (Z0 : n0 ≤ h0.size) (F : own_W Z h0 r0 r1 r2 r3 r4 r5 r6 r7 r8 r0_c cl_r0_c r1_c cl_r1_c r2_c cl_r2_c r3_c cl_r3_c r4_c cl_r4_c r5_c cl_r5_c r6_c cl_r6_c r7_c cl_r7_c r8_c cl_r8_c)   :
    MetFree l (⟨"com/example/urbana/urbana/protocol/CommandTakesPinLaw", "pick", "(I)Lcom/example/urbana/urbana/protocol/Command;"⟩ : MethodName) (head1 (Jvm.Cond.code (⟨"com/example/urbana/urbana/protocol/CommandTakesPinLaw", "pick", "(I)Lcom/example/urbana/urbana/protocol/Command;"⟩ : MethodName) method_2_code 1 (some (.object "com/example/urbana/urbana/protocol/Command")) :: ws) ({ frames := 0, cells := 0, slots := 0, locals := 0 } : Room)) (fun a U => a = #[(.int (0 : Int32))] ∧ Z.Warmed39 U.vm ∧ U.heap = h0) (fun _ _ _ _ _ => True) (fun _ U o U' => ∃ v L, o = .returned v ∧ own_Q (.ref r0) h0 n0 v U'.heap L ∧ FrameEnd U o U' L ({ frames := 0, cells := 0, slots := 0, locals := 0 } : Room).cells ({ frames := 0, cells := 0, slots := 0, locals := 0 } : Room).slots) := by
  obtain ⟨S_r0, E_r0, S_r1, E_r1, S_r2, E_r2, S_r3, E_r3, S_r4, E_r4, S_r5, E_r5, S_r6, E_r6, S_r7, E_r7, S_r8, E_r8, F_r0_counts, Ar_r0_c, F_r1_counts, Ar_r1_c, F_r2_counts, Ar_r2_c, F_r3_counts, Ar_r3_c, F_r4_counts, Ar_r4_c, F_r5_counts, Ar_r5_c, F_r6_counts, Ar_r6_c, F_r7_counts, Ar_r7_c, F_r8_counts, Ar_r8_c, Sz_r0_c, El_r0_c_0, Sz_r1_c, El_r1_c_0, El_r1_c_1, Sz_r2_c, El_r2_c_0, Sz_r3_c, Sz_r4_c, Sz_r5_c, Sz_r6_c, Sz_r7_c, Sz_r8_c⟩ := id F
  refine MetFree.of_bodySF (plainFor_of_name own_pn_CommandTakesPinLaw) hisR ?_
  intro p e s m args below meth c s₁ Bd hml0 hP hK
  obtain ⟨rfl, hZ, hh⟩ := hP
  have hx := Bd.exec
  have hby := Bd.bytes
  have hml : c.maxLocals = 1 := hml0
  have hown : s.vm.findClass "com/example/urbana/urbana/protocol/CommandTakesPinLaw" = some m.cls := findClass_of_methodNamed Bd.named
  have X0 : Stand p l e ({ frames := 0, cells := 0, slots := 0, locals := 0 } : Room) s m #[(.int (0 : Int32))] below meth c s₁ [] 0 0 := Stand.of_body Bd
  have e0 : s₁.heap = h0 := by rw [← hh, Bd.state]; rfl
  have N0 := Fr.nil n0
  have pre0 : ∀ t, Steps p.tables e below (s₁.setTop (mkF m 0 #[.val (.int (0 : Int32))] [])) t → Steps p.tables e below (s₁.setTop (entryFrame m #[(.int (0 : Int32))] 1)) t := fun t k => castTop (own_ef1_I m (0 : Int32)) k
  obtain ⟨T1, X1, e1, st1⟩ := getS2 X0 hx hZ hown (host := "") (Or.inl (hw _ (List.mem_of_getElem? (i := 5) rfl))) Via.refl e0 S_r0 (g := (mkF m 4 #[.val (.int (0 : Int32))] [])) rfl (hb hby own_d1_4)
  obtain ⟨fs, hr, hrun, hended, hW, hsame⟩ := X1.leave (v := some (.ref r0)) (fun h => by rw [Bd.returns] at h; cases h)
  refine ⟨_, _, pre0 _ ?_, hrun, hended, _, _, rfl, ?_, ⟨_, rfl⟩, hW, hsame.mono (by decide) (by decide)⟩
  · show Steps p.tables e below (s₁.setTop (mkF m 0 #[.val (.int (0 : Int32))] [])) _
    refine XS.iloadN X0.here hx rfl (hb hby own_d1_0) rfl ?_
    show Steps p.tables e below (s₁.setTop (mkF m 1 #[.val (.int (0 : Int32))] [(.int (0 : Int32))])) _
    refine XS.ifNo X0.here hx rfl (hb hby own_d1_1) rfl ((if0 _ _).trans (teq (by decide : (0 : Int32) = (0 : Int32))).2) ?_
    show Steps p.tables e below (s₁.setTop (mkF m 4 #[.val (.int (0 : Int32))] [])) _
    refine st1 _ ?_
    show Steps p.tables e below (T1.setTop (mkF m 7 #[.val (.int (0 : Int32))] [(.ref r0)])) _
    jvm_step X1.here [X1.here.top, hx, (hb hby own_d1_7), X1.method', Bd.returns, Value.isRef, FieldType.isReference]
    first | (intro acts; rw [hr _ acts rfl rfl rfl]) | rw [hr _ _ rfl rfl rfl]
    exact Steps.refl _
  · exact ⟨rfl, N0, e1⟩
theorem own_pd0 : parseMethodDescriptor "(I)Lcom/example/urbana/urbana/protocol/Command;" = some ⟨[.int], some (.object "com/example/urbana/urbana/protocol/Command")⟩ := by decide +kernel
theorem own_ef2_RI (m : MethodId) (x0 : Addr) (x1 : Int32) : entryFrame m #[(.ref x0), (.int x1)] 7 = mkF m 0 #[.val (.ref x0), .val (.int x1), .unset, .unset, .unset, .unset, .unset] [] := by first | (simp [entryFrame, mkF, argsToLocals, Value.category]; done) | rfl
theorem own_d2_0 : decode prog_2_method_8_code 0 = .ok (.iconst 0, 1) := by decide +kernel
theorem own_d2_1 : decode prog_2_method_8_code 1 = .ok (.istore_n 2, 1) := by decide +kernel
theorem own_d2_2 : decode prog_2_method_8_code 2 = .ok (.aload_n 0, 1) := by decide +kernel
theorem own_d2_3 : decode prog_2_method_8_code 3 = .ok (.getfield 121, 3) := by decide +kernel
theorem own_d2_6 : decode prog_2_method_8_code 6 = .ok (.astore_n 3, 1) := by decide +kernel
theorem own_d2_7 : decode prog_2_method_8_code 7 = .ok (.aload_n 3, 1) := by decide +kernel
theorem own_d2_8 : decode prog_2_method_8_code 8 = .ok (.arraylength, 1) := by decide +kernel
theorem own_d2_9 : decode prog_2_method_8_code 9 = .ok (.istore 4, 2) := by decide +kernel
theorem own_d2_11 : decode prog_2_method_8_code 11 = .ok (.iconst 0, 1) := by decide +kernel
theorem own_d2_12 : decode prog_2_method_8_code 12 = .ok (.istore 5, 2) := by decide +kernel
theorem own_d2_14 : decode prog_2_method_8_code 14 = .ok (.iload 5, 2) := by decide +kernel
theorem own_d2_16 : decode prog_2_method_8_code 16 = .ok (.iload 4, 2) := by decide +kernel
theorem own_d2_18 : decode prog_2_method_8_code 18 = .ok (.if_icmp .ge 29, 3) := by decide +kernel
theorem own_d2_21 : decode prog_2_method_8_code 21 = .ok (.aload_n 3, 1) := by decide +kernel
theorem own_d2_22 : decode prog_2_method_8_code 22 = .ok (.iload 5, 2) := by decide +kernel
theorem own_d2_24 : decode prog_2_method_8_code 24 = .ok (.iaload, 1) := by decide +kernel
theorem own_d2_25 : decode prog_2_method_8_code 25 = .ok (.istore 6, 2) := by decide +kernel
theorem own_d2_27 : decode prog_2_method_8_code 27 = .ok (.iload_n 2, 1) := by decide +kernel
theorem own_d2_28 : decode prog_2_method_8_code 28 = .ok (.iload 6, 2) := by decide +kernel
theorem own_d2_30 : decode prog_2_method_8_code 30 = .ok (.iload_n 1, 1) := by decide +kernel
theorem own_d2_31 : decode prog_2_method_8_code 31 = .ok (.if_icmp .ne 7, 3) := by decide +kernel
theorem own_d2_34 : decode prog_2_method_8_code 34 = .ok (.iconst 1, 1) := by decide +kernel
theorem own_d2_35 : decode prog_2_method_8_code 35 = .ok (.goto 4, 3) := by decide +kernel
theorem own_d2_39 : decode prog_2_method_8_code 39 = .ok (.ior, 1) := by decide +kernel
theorem own_d2_40 : decode prog_2_method_8_code 40 = .ok (.istore_n 2, 1) := by decide +kernel
theorem own_d2_41 : decode prog_2_method_8_code 41 = .ok (.iinc 5 1, 3) := by decide +kernel
theorem own_d2_44 : decode prog_2_method_8_code 44 = .ok (.goto (-30), 3) := by decide +kernel
theorem own_d2_47 : decode prog_2_method_8_code 47 = .ok (.iload_n 2, 1) := by decide +kernel
theorem own_d2_48 : decode prog_2_method_8_code 48 = .ok (.ireturn, 1) := by decide +kernel
theorem own_pn_Command : plainName "com/example/urbana/urbana/protocol/Command" = true := by first | (simp [plainName, overriddenIn]; done) | decide +kernel
set_option maxRecDepth 65536 in
set_option maxHeartbeats 40000000 in
theorem own_r2_3 (l : Launch) (Z : State) (a0 : Array Value) (hw : ∀ d ∈ tables_1, d.before a0 Z = true) (ws : List Jvm.Cond) (r0 : Addr) (r1 : Addr) (r2 : Addr) (r3 : Addr) (r4 : Addr) (r5 : Addr) (r6 : Addr) (r7 : Addr) (r8 : Addr) (r0_c : Addr) (cl_r0_c : Cell) (r1_c : Addr) (cl_r1_c : Cell) (r2_c : Addr) (cl_r2_c : Cell) (r3_c : Addr) (cl_r3_c : Cell) (r4_c : Addr) (cl_r4_c : Cell) (r5_c : Addr) (cl_r5_c : Cell) (r6_c : Addr) (cl_r6_c : Cell) (r7_c : Addr) (cl_r7_c : Cell) (r8_c : Addr) (cl_r8_c : Cell) (h0 : Heap) (n0 : Nat) (Z0 : n0 ≤ h0.size) (F : own_W Z h0 r0 r1 r2 r3 r4 r5 r6 r7 r8 r0_c cl_r0_c r1_c cl_r1_c r2_c cl_r2_c r3_c cl_r3_c r4_c cl_r4_c r5_c cl_r5_c r6_c cl_r6_c r7_c cl_r7_c r8_c cl_r8_c) (q0 : Int32) (h3 : q0 = (3 : Int32)) :
    MetFree l (⟨"com/example/urbana/urbana/protocol/Command", "takes", "(I)Z"⟩ : MethodName) (head1 (Jvm.Cond.code (⟨"com/example/urbana/urbana/protocol/Command", "takes", "(I)Z"⟩ : MethodName) prog_2_method_8_code 7 (some .boolean) :: ws) ({ frames := 0, cells := 0, slots := 0, locals := 0 } : Room)) (fun a U => a = #[(.ref r0), (.int q0)] ∧ Z.Warmed39 U.vm ∧ U.heap = h0) (fun _ _ _ _ _ => True) (fun _ U o U' => ∃ v L, o = .returned v ∧ own_Q (.int (1 : Int32)) h0 n0 v U'.heap L ∧ FrameEnd U o U' L ({ frames := 0, cells := 0, slots := 0, locals := 0 } : Room).cells ({ frames := 0, cells := 0, slots := 0, locals := 0 } : Room).slots) := by
  obtain ⟨S_r0, E_r0, S_r1, E_r1, S_r2, E_r2, S_r3, E_r3, S_r4, E_r4, S_r5, E_r5, S_r6, E_r6, S_r7, E_r7, S_r8, E_r8, F_r0_counts, Ar_r0_c, F_r1_counts, Ar_r1_c, F_r2_counts, Ar_r2_c, F_r3_counts, Ar_r3_c, F_r4_counts, Ar_r4_c, F_r5_counts, Ar_r5_c, F_r6_counts, Ar_r6_c, F_r7_counts, Ar_r7_c, F_r8_counts, Ar_r8_c, Sz_r0_c, El_r0_c_0, Sz_r1_c, El_r1_c_0, El_r1_c_1, Sz_r2_c, El_r2_c_0, Sz_r3_c, Sz_r4_c, Sz_r5_c, Sz_r6_c, Sz_r7_c, Sz_r8_c⟩ := id F
  refine MetFree.of_bodySF (plainFor_of_name own_pn_Command) hisR ?_
  intro p e s m args below meth c s₁ Bd hml0 hP hK
  obtain ⟨rfl, hZ, hh⟩ := hP
  have hx := Bd.exec
  have hby := Bd.bytes
  have hml : c.maxLocals = 7 := hml0
  have hown : s.vm.findClass "com/example/urbana/urbana/protocol/Command" = some m.cls := findClass_of_methodNamed Bd.named
  have X0 : Stand p l e ({ frames := 0, cells := 0, slots := 0, locals := 0 } : Room) s m #[(.ref r0), (.int q0)] below meth c s₁ [] 0 0 := Stand.of_body Bd
  have e0 : s₁.heap = h0 := by rw [← hh, Bd.state]; rfl
  have N0 := Fr.nil n0
  have pre0 : ∀ t, Steps p.tables e below (s₁.setTop (mkF m 0 #[.val (.ref r0), .val (.int q0), .unset, .unset, .unset, .unset, .unset] [])) t → Steps p.tables e below (s₁.setTop (entryFrame m #[(.ref r0), (.int q0)] 7)) t := fun t k => castTop (own_ef2_RI m r0 q0) k
  obtain ⟨T1, X1, e1, st1⟩ := getF X0 hx hZ hown (host := "") (Or.inl (hw _ (List.mem_of_getElem? (i := 13) rfl))) Via.refl e0 F_r0_counts (g := (mkF m 3 #[.val (.ref r0), .val (.int q0), .val (.int (0 : Int32)), .unset, .unset, .unset, .unset] [(.ref r0)])) rfl rfl (hb hby own_d2_3)
  obtain ⟨fs, hr, hrun, hended, hW, hsame⟩ := X1.leave (v := some (.int (1 : Int32))) (fun h => by rw [Bd.returns] at h; cases h)
  refine ⟨_, _, pre0 _ ?_, hrun, hended, _, _, rfl, ?_, ⟨_, rfl⟩, hW, hsame.mono (by decide) (by decide)⟩
  · show Steps p.tables e below (s₁.setTop (mkF m 0 #[.val (.ref r0), .val (.int q0), .unset, .unset, .unset, .unset, .unset] [])) _
    refine XS.iconst X0.here hx rfl (hb hby own_d2_0) ?_
    show Steps p.tables e below (s₁.setTop (mkF m 1 #[.val (.ref r0), .val (.int q0), .unset, .unset, .unset, .unset, .unset] [(.int (0 : Int32))])) _
    refine XS.istoreN X0.here hx rfl (hb hby own_d2_1) rfl (l' := #[.val (.ref r0), .val (.int q0), .val (.int (0 : Int32)), .unset, .unset, .unset, .unset]) rfl ?_
    show Steps p.tables e below (s₁.setTop (mkF m 2 #[.val (.ref r0), .val (.int q0), .val (.int (0 : Int32)), .unset, .unset, .unset, .unset] [])) _
    refine XS.aloadN X0.here hx rfl (hb hby own_d2_2) rfl rfl ?_
    show Steps p.tables e below (s₁.setTop (mkF m 3 #[.val (.ref r0), .val (.int q0), .val (.int (0 : Int32)), .unset, .unset, .unset, .unset] [(.ref r0)])) _
    refine st1 _ ?_
    show Steps p.tables e below (T1.setTop (mkF m 6 #[.val (.ref r0), .val (.int q0), .val (.int (0 : Int32)), .unset, .unset, .unset, .unset] [(.ref r0_c)])) _
    refine XS.astoreN X1.here hx rfl (hb hby own_d2_6) rfl rfl (l' := #[.val (.ref r0), .val (.int q0), .val (.int (0 : Int32)), .val (.ref r0_c), .unset, .unset, .unset]) rfl ?_
    show Steps p.tables e below (T1.setTop (mkF m 7 #[.val (.ref r0), .val (.int q0), .val (.int (0 : Int32)), .val (.ref r0_c), .unset, .unset, .unset] [])) _
    refine XS.aloadN X1.here hx rfl (hb hby own_d2_7) rfl rfl ?_
    show Steps p.tables e below (T1.setTop (mkF m 8 #[.val (.ref r0), .val (.int q0), .val (.int (0 : Int32)), .val (.ref r0_c), .unset, .unset, .unset] [(.ref r0_c)])) _
    refine X1.arraylength hx (by rw [e1]; exact Ar_r0_c.1) (State.isArrayOf_alike hZ.alike Ar_r0_c.2.1) (g := (mkF m 8 #[.val (.ref r0), .val (.int q0), .val (.int (0 : Int32)), .val (.ref r0_c), .unset, .unset, .unset] [(.ref r0_c)])) rfl rfl (hb hby own_d2_8) _ ?_
    rw [len_of Sz_r0_c (by decide)]
    show Steps p.tables e below (T1.setTop (mkF m 9 #[.val (.ref r0), .val (.int q0), .val (.int (0 : Int32)), .val (.ref r0_c), .unset, .unset, .unset] [(.int (1 : Int32))])) _
    refine XS.istore X1.here hx rfl (hb hby own_d2_9) rfl (l' := #[.val (.ref r0), .val (.int q0), .val (.int (0 : Int32)), .val (.ref r0_c), .val (.int (1 : Int32)), .unset, .unset]) rfl ?_
    show Steps p.tables e below (T1.setTop (mkF m 11 #[.val (.ref r0), .val (.int q0), .val (.int (0 : Int32)), .val (.ref r0_c), .val (.int (1 : Int32)), .unset, .unset] [])) _
    refine XS.iconst X1.here hx rfl (hb hby own_d2_11) ?_
    show Steps p.tables e below (T1.setTop (mkF m 12 #[.val (.ref r0), .val (.int q0), .val (.int (0 : Int32)), .val (.ref r0_c), .val (.int (1 : Int32)), .unset, .unset] [(.int (0 : Int32))])) _
    refine XS.istore X1.here hx rfl (hb hby own_d2_12) rfl (l' := #[.val (.ref r0), .val (.int q0), .val (.int (0 : Int32)), .val (.ref r0_c), .val (.int (1 : Int32)), .val (.int (0 : Int32)), .unset]) rfl ?_
    show Steps p.tables e below (T1.setTop (mkF m 14 #[.val (.ref r0), .val (.int q0), .val (.int (0 : Int32)), .val (.ref r0_c), .val (.int (1 : Int32)), .val (.int (0 : Int32)), .unset] [])) _
    refine XS.iload X1.here hx rfl (hb hby own_d2_14) rfl ?_
    show Steps p.tables e below (T1.setTop (mkF m 16 #[.val (.ref r0), .val (.int q0), .val (.int (0 : Int32)), .val (.ref r0_c), .val (.int (1 : Int32)), .val (.int (0 : Int32)), .unset] [(.int (0 : Int32))])) _
    refine XS.iload X1.here hx rfl (hb hby own_d2_16) rfl ?_
    show Steps p.tables e below (T1.setTop (mkF m 18 #[.val (.ref r0), .val (.int q0), .val (.int (0 : Int32)), .val (.ref r0_c), .val (.int (1 : Int32)), .val (.int (0 : Int32)), .unset] [(.int (1 : Int32)), (.int (0 : Int32))])) _
    refine XS.icmpNo X1.here hx rfl (hb hby own_d2_18) rfl (tlt (by decide : (0 : Int32) < (1 : Int32))).2.1 ?_
    show Steps p.tables e below (T1.setTop (mkF m 21 #[.val (.ref r0), .val (.int q0), .val (.int (0 : Int32)), .val (.ref r0_c), .val (.int (1 : Int32)), .val (.int (0 : Int32)), .unset] [])) _
    refine XS.aloadN X1.here hx rfl (hb hby own_d2_21) rfl rfl ?_
    show Steps p.tables e below (T1.setTop (mkF m 22 #[.val (.ref r0), .val (.int q0), .val (.int (0 : Int32)), .val (.ref r0_c), .val (.int (1 : Int32)), .val (.int (0 : Int32)), .unset] [(.ref r0_c)])) _
    refine XS.iload X1.here hx rfl (hb hby own_d2_22) rfl ?_
    show Steps p.tables e below (T1.setTop (mkF m 24 #[.val (.ref r0), .val (.int q0), .val (.int (0 : Int32)), .val (.ref r0_c), .val (.int (1 : Int32)), .val (.int (0 : Int32)), .unset] [(.int (0 : Int32)), (.ref r0_c)])) _
    refine X1.iaload hx (j := (0 : Int32)) (v := (.int (3 : Int32))) (by rw [e1]; exact Ar_r0_c.1) (State.isArrayOf_alike hZ.alike Ar_r0_c.2.1) Ar_r0_c.2.2 (inb_of Sz_r0_c ⟨by decide, by decide⟩) El_r0_c_0 (g := (mkF m 24 #[.val (.ref r0), .val (.int q0), .val (.int (0 : Int32)), .val (.ref r0_c), .val (.int (1 : Int32)), .val (.int (0 : Int32)), .unset] [(.int (0 : Int32)), (.ref r0_c)])) rfl rfl (hb hby own_d2_24) _ ?_
    show Steps p.tables e below (T1.setTop (mkF m 25 #[.val (.ref r0), .val (.int q0), .val (.int (0 : Int32)), .val (.ref r0_c), .val (.int (1 : Int32)), .val (.int (0 : Int32)), .unset] [(.int (3 : Int32))])) _
    refine XS.istore X1.here hx rfl (hb hby own_d2_25) rfl (l' := #[.val (.ref r0), .val (.int q0), .val (.int (0 : Int32)), .val (.ref r0_c), .val (.int (1 : Int32)), .val (.int (0 : Int32)), .val (.int (3 : Int32))]) rfl ?_
    show Steps p.tables e below (T1.setTop (mkF m 27 #[.val (.ref r0), .val (.int q0), .val (.int (0 : Int32)), .val (.ref r0_c), .val (.int (1 : Int32)), .val (.int (0 : Int32)), .val (.int (3 : Int32))] [])) _
    refine XS.iloadN X1.here hx rfl (hb hby own_d2_27) rfl ?_
    show Steps p.tables e below (T1.setTop (mkF m 28 #[.val (.ref r0), .val (.int q0), .val (.int (0 : Int32)), .val (.ref r0_c), .val (.int (1 : Int32)), .val (.int (0 : Int32)), .val (.int (3 : Int32))] [(.int (0 : Int32))])) _
    refine XS.iload X1.here hx rfl (hb hby own_d2_28) rfl ?_
    show Steps p.tables e below (T1.setTop (mkF m 30 #[.val (.ref r0), .val (.int q0), .val (.int (0 : Int32)), .val (.ref r0_c), .val (.int (1 : Int32)), .val (.int (0 : Int32)), .val (.int (3 : Int32))] [(.int (3 : Int32)), (.int (0 : Int32))])) _
    refine XS.iloadN X1.here hx rfl (hb hby own_d2_30) rfl ?_
    show Steps p.tables e below (T1.setTop (mkF m 31 #[.val (.ref r0), .val (.int q0), .val (.int (0 : Int32)), .val (.ref r0_c), .val (.int (1 : Int32)), .val (.int (0 : Int32)), .val (.int (3 : Int32))] [(.int q0), (.int (3 : Int32)), (.int (0 : Int32))])) _
    refine XS.icmpNo X1.here hx rfl (hb hby own_d2_31) rfl (teq (h3.symm : (3 : Int32) = q0)).2 ?_
    show Steps p.tables e below (T1.setTop (mkF m 34 #[.val (.ref r0), .val (.int q0), .val (.int (0 : Int32)), .val (.ref r0_c), .val (.int (1 : Int32)), .val (.int (0 : Int32)), .val (.int (3 : Int32))] [(.int (0 : Int32))])) _
    refine XS.iconst X1.here hx rfl (hb hby own_d2_34) ?_
    show Steps p.tables e below (T1.setTop (mkF m 35 #[.val (.ref r0), .val (.int q0), .val (.int (0 : Int32)), .val (.ref r0_c), .val (.int (1 : Int32)), .val (.int (0 : Int32)), .val (.int (3 : Int32))] [(.int (1 : Int32)), (.int (0 : Int32))])) _
    refine XS.goto X1.here hx rfl (pc0 := 35) (pc' := 39) rfl (hb hby own_d2_35) (by decide) (by decide) ?_
    show Steps p.tables e below (T1.setTop (mkF m 39 #[.val (.ref r0), .val (.int q0), .val (.int (0 : Int32)), .val (.ref r0_c), .val (.int (1 : Int32)), .val (.int (0 : Int32)), .val (.int (3 : Int32))] [(.int (1 : Int32)), (.int (0 : Int32))])) _
    refine XS.ior X1.here hx rfl (hb hby own_d2_39) rfl ?_
    show Steps p.tables e below (T1.setTop (mkF m 40 #[.val (.ref r0), .val (.int q0), .val (.int (0 : Int32)), .val (.ref r0_c), .val (.int (1 : Int32)), .val (.int (0 : Int32)), .val (.int (3 : Int32))] [(.int ((0 : Int32) ||| (1 : Int32)))])) _
    rw [show ((0 : Int32) ||| (1 : Int32)) = (1 : Int32) from by decide]
    show Steps p.tables e below (T1.setTop (mkF m 40 #[.val (.ref r0), .val (.int q0), .val (.int (0 : Int32)), .val (.ref r0_c), .val (.int (1 : Int32)), .val (.int (0 : Int32)), .val (.int (3 : Int32))] [(.int (1 : Int32))])) _
    refine XS.istoreN X1.here hx rfl (hb hby own_d2_40) rfl (l' := #[.val (.ref r0), .val (.int q0), .val (.int (1 : Int32)), .val (.ref r0_c), .val (.int (1 : Int32)), .val (.int (0 : Int32)), .val (.int (3 : Int32))]) rfl ?_
    show Steps p.tables e below (T1.setTop (mkF m 41 #[.val (.ref r0), .val (.int q0), .val (.int (1 : Int32)), .val (.ref r0_c), .val (.int (1 : Int32)), .val (.int (0 : Int32)), .val (.int (3 : Int32))] [])) _
    refine XS.iinc X1.here hx rfl (hb hby own_d2_41) rfl (l' := #[.val (.ref r0), .val (.int q0), .val (.int (1 : Int32)), .val (.ref r0_c), .val (.int (1 : Int32)), .val (.int ((0 : Int32) + (1 : Int32))), .val (.int (3 : Int32))]) rfl ?_
    show Steps p.tables e below (T1.setTop (mkF m 44 #[.val (.ref r0), .val (.int q0), .val (.int (1 : Int32)), .val (.ref r0_c), .val (.int (1 : Int32)), .val (.int ((0 : Int32) + (1 : Int32))), .val (.int (3 : Int32))] [])) _
    rw [show ((0 : Int32) + (1 : Int32)) = (1 : Int32) from by decide]
    show Steps p.tables e below (T1.setTop (mkF m 44 #[.val (.ref r0), .val (.int q0), .val (.int (1 : Int32)), .val (.ref r0_c), .val (.int (1 : Int32)), .val (.int (1 : Int32)), .val (.int (3 : Int32))] [])) _
    refine XS.goto X1.here hx rfl (pc0 := 44) (pc' := 14) rfl (hb hby own_d2_44) (by decide) (by decide) ?_
    show Steps p.tables e below (T1.setTop (mkF m 14 #[.val (.ref r0), .val (.int q0), .val (.int (1 : Int32)), .val (.ref r0_c), .val (.int (1 : Int32)), .val (.int (1 : Int32)), .val (.int (3 : Int32))] [])) _
    refine XS.iload X1.here hx rfl (hb hby own_d2_14) rfl ?_
    show Steps p.tables e below (T1.setTop (mkF m 16 #[.val (.ref r0), .val (.int q0), .val (.int (1 : Int32)), .val (.ref r0_c), .val (.int (1 : Int32)), .val (.int (1 : Int32)), .val (.int (3 : Int32))] [(.int (1 : Int32))])) _
    refine XS.iload X1.here hx rfl (hb hby own_d2_16) rfl ?_
    show Steps p.tables e below (T1.setTop (mkF m 18 #[.val (.ref r0), .val (.int q0), .val (.int (1 : Int32)), .val (.ref r0_c), .val (.int (1 : Int32)), .val (.int (1 : Int32)), .val (.int (3 : Int32))] [(.int (1 : Int32)), (.int (1 : Int32))])) _
    refine XS.icmpYes X1.here hx rfl (pc0 := 18) (pc' := 47) rfl (hb hby own_d2_18) rfl (flt (by decide : ¬ ((1 : Int32) < (1 : Int32)))).2.1 (by decide) (by decide) ?_
    show Steps p.tables e below (T1.setTop (mkF m 47 #[.val (.ref r0), .val (.int q0), .val (.int (1 : Int32)), .val (.ref r0_c), .val (.int (1 : Int32)), .val (.int (1 : Int32)), .val (.int (3 : Int32))] [])) _
    refine XS.iloadN X1.here hx rfl (hb hby own_d2_47) rfl ?_
    show Steps p.tables e below (T1.setTop (mkF m 48 #[.val (.ref r0), .val (.int q0), .val (.int (1 : Int32)), .val (.ref r0_c), .val (.int (1 : Int32)), .val (.int (1 : Int32)), .val (.int (3 : Int32))] [(.int (1 : Int32))])) _
    exact retN X1 hx (t := .boolean) Bd.returns (by simp) (hb hby own_d2_48) hr
  · exact ⟨rfl, N0, e1⟩
theorem own_pd1 : parseMethodDescriptor "(I)Z" = some ⟨[.int], some .boolean⟩ := by decide +kernel
theorem own_ef3_II (m : MethodId) (x0 : Int32) (x1 : Int32) : entryFrame m #[(.int x0), (.int x1)] 2 = mkF m 0 #[.val (.int x0), .val (.int x1)] [] := by first | (simp [entryFrame, mkF, argsToLocals, Value.category]; done) | rfl
theorem own_d3_0 : decode method_3_code 0 = .ok (.iload_n 0, 1) := by decide +kernel
theorem own_d3_1 : decode method_3_code 1 = .ok (.ifCond .ne 14, 3) := by decide +kernel
theorem own_d3_4 : decode method_3_code 4 = .ok (.iload_n 1, 1) := by decide +kernel
theorem own_d3_5 : decode method_3_code 5 = .ok (.iconst 3, 1) := by decide +kernel
theorem own_d3_6 : decode method_3_code 6 = .ok (.if_icmp .ne 7, 3) := by decide +kernel
theorem own_d3_9 : decode method_3_code 9 = .ok (.iconst 1, 1) := by decide +kernel
theorem own_d3_10 : decode method_3_code 10 = .ok (.goto 4, 3) := by decide +kernel
theorem own_d3_14 : decode method_3_code 14 = .ok (.ireturn, 1) := by decide +kernel
set_option maxRecDepth 65536 in
set_option maxHeartbeats 40000000 in
theorem own_r3_4 (l : Launch) (Z : State) (a0 : Array Value) (hw : ∀ d ∈ tables_1, d.before a0 Z = true) (ws : List Jvm.Cond) (r0 : Addr) (r1 : Addr) (r2 : Addr) (r3 : Addr) (r4 : Addr) (r5 : Addr) (r6 : Addr) (r7 : Addr) (r8 : Addr) (r0_c : Addr) (cl_r0_c : Cell) (r1_c : Addr) (cl_r1_c : Cell) (r2_c : Addr) (cl_r2_c : Cell) (r3_c : Addr) (cl_r3_c : Cell) (r4_c : Addr) (cl_r4_c : Cell) (r5_c : Addr) (cl_r5_c : Cell) (r6_c : Addr) (cl_r6_c : Cell) (r7_c : Addr) (cl_r7_c : Cell) (r8_c : Addr) (cl_r8_c : Cell) (h0 : Heap) (n0 : Nat) (Z0 : n0 ≤ h0.size) (F : own_W Z h0 r0 r1 r2 r3 r4 r5 r6 r7 r8 r0_c cl_r0_c r1_c cl_r1_c r2_c cl_r2_c r3_c cl_r3_c r4_c cl_r4_c r5_c cl_r5_c r6_c cl_r6_c r7_c cl_r7_c r8_c cl_r8_c) (q0 : Int32) (h3 : q0 = (3 : Int32)) :
    MetFree l (⟨"com/example/urbana/urbana/protocol/CommandTakesPinLaw", "expected", "(II)Z"⟩ : MethodName) (head1 (Jvm.Cond.code (⟨"com/example/urbana/urbana/protocol/CommandTakesPinLaw", "expected", "(II)Z"⟩ : MethodName) method_3_code 2 (some .boolean) :: ws) ({ frames := 0, cells := 0, slots := 0, locals := 0 } : Room)) (fun a U => a = #[(.int (0 : Int32)), (.int q0)] ∧ Z.Warmed39 U.vm ∧ U.heap = h0) (fun _ _ _ _ _ => True) (fun _ U o U' => ∃ v L, o = .returned v ∧ own_Q (.int (1 : Int32)) h0 n0 v U'.heap L ∧ FrameEnd U o U' L ({ frames := 0, cells := 0, slots := 0, locals := 0 } : Room).cells ({ frames := 0, cells := 0, slots := 0, locals := 0 } : Room).slots) := by
  obtain ⟨S_r0, E_r0, S_r1, E_r1, S_r2, E_r2, S_r3, E_r3, S_r4, E_r4, S_r5, E_r5, S_r6, E_r6, S_r7, E_r7, S_r8, E_r8, F_r0_counts, Ar_r0_c, F_r1_counts, Ar_r1_c, F_r2_counts, Ar_r2_c, F_r3_counts, Ar_r3_c, F_r4_counts, Ar_r4_c, F_r5_counts, Ar_r5_c, F_r6_counts, Ar_r6_c, F_r7_counts, Ar_r7_c, F_r8_counts, Ar_r8_c, Sz_r0_c, El_r0_c_0, Sz_r1_c, El_r1_c_0, El_r1_c_1, Sz_r2_c, El_r2_c_0, Sz_r3_c, Sz_r4_c, Sz_r5_c, Sz_r6_c, Sz_r7_c, Sz_r8_c⟩ := id F
  refine MetFree.of_bodySF (plainFor_of_name own_pn_CommandTakesPinLaw) hisR ?_
  intro p e s m args below meth c s₁ Bd hml0 hP hK
  obtain ⟨rfl, hZ, hh⟩ := hP
  have hx := Bd.exec
  have hby := Bd.bytes
  have hml : c.maxLocals = 2 := hml0
  have hown : s.vm.findClass "com/example/urbana/urbana/protocol/CommandTakesPinLaw" = some m.cls := findClass_of_methodNamed Bd.named
  have X0 : Stand p l e ({ frames := 0, cells := 0, slots := 0, locals := 0 } : Room) s m #[(.int (0 : Int32)), (.int q0)] below meth c s₁ [] 0 0 := Stand.of_body Bd
  have e0 : s₁.heap = h0 := by rw [← hh, Bd.state]; rfl
  have N0 := Fr.nil n0
  have pre0 : ∀ t, Steps p.tables e below (s₁.setTop (mkF m 0 #[.val (.int (0 : Int32)), .val (.int q0)] [])) t → Steps p.tables e below (s₁.setTop (entryFrame m #[(.int (0 : Int32)), (.int q0)] 2)) t := fun t k => castTop (own_ef3_II m (0 : Int32) q0) k
  obtain ⟨fs, hr, hrun, hended, hW, hsame⟩ := X0.leave (v := some (.int (1 : Int32))) (fun h => by rw [Bd.returns] at h; cases h)
  refine ⟨_, _, pre0 _ ?_, hrun, hended, _, _, rfl, ?_, ⟨_, rfl⟩, hW, hsame.mono (by decide) (by decide)⟩
  · show Steps p.tables e below (s₁.setTop (mkF m 0 #[.val (.int (0 : Int32)), .val (.int q0)] [])) _
    refine XS.iloadN X0.here hx rfl (hb hby own_d3_0) rfl ?_
    show Steps p.tables e below (s₁.setTop (mkF m 1 #[.val (.int (0 : Int32)), .val (.int q0)] [(.int (0 : Int32))])) _
    refine XS.ifNo X0.here hx rfl (hb hby own_d3_1) rfl ((if0 _ _).trans (teq (by decide : (0 : Int32) = (0 : Int32))).2) ?_
    show Steps p.tables e below (s₁.setTop (mkF m 4 #[.val (.int (0 : Int32)), .val (.int q0)] [])) _
    refine XS.iloadN X0.here hx rfl (hb hby own_d3_4) rfl ?_
    show Steps p.tables e below (s₁.setTop (mkF m 5 #[.val (.int (0 : Int32)), .val (.int q0)] [(.int q0)])) _
    refine XS.iconst X0.here hx rfl (hb hby own_d3_5) ?_
    show Steps p.tables e below (s₁.setTop (mkF m 6 #[.val (.int (0 : Int32)), .val (.int q0)] [(.int (3 : Int32)), (.int q0)])) _
    refine XS.icmpNo X0.here hx rfl (hb hby own_d3_6) rfl (teq (h3 : q0 = (3 : Int32))).2 ?_
    show Steps p.tables e below (s₁.setTop (mkF m 9 #[.val (.int (0 : Int32)), .val (.int q0)] [])) _
    refine XS.iconst X0.here hx rfl (hb hby own_d3_9) ?_
    show Steps p.tables e below (s₁.setTop (mkF m 10 #[.val (.int (0 : Int32)), .val (.int q0)] [(.int (1 : Int32))])) _
    refine XS.goto X0.here hx rfl (pc0 := 10) (pc' := 14) rfl (hb hby own_d3_10) (by decide) (by decide) ?_
    show Steps p.tables e below (s₁.setTop (mkF m 14 #[.val (.int (0 : Int32)), .val (.int q0)] [(.int (1 : Int32))])) _
    exact retN X0 hx (t := .boolean) Bd.returns (by simp) (hb hby own_d3_14) hr
  · exact ⟨rfl, N0, e0⟩
theorem own_pd2 : parseMethodDescriptor "(II)Z" = some ⟨[.int, .int], some .boolean⟩ := by decide +kernel
set_option maxRecDepth 65536 in
set_option maxHeartbeats 40000000 in
theorem own_r0_k0m0c0 (l : Launch) (Z : State) (a0 : Array Value) (hw : ∀ d ∈ tables_1, d.before a0 Z = true) (ws : List Jvm.Cond) (r0 : Addr) (r1 : Addr) (r2 : Addr) (r3 : Addr) (r4 : Addr) (r5 : Addr) (r6 : Addr) (r7 : Addr) (r8 : Addr) (r0_c : Addr) (cl_r0_c : Cell) (r1_c : Addr) (cl_r1_c : Cell) (r2_c : Addr) (cl_r2_c : Cell) (r3_c : Addr) (cl_r3_c : Cell) (r4_c : Addr) (cl_r4_c : Cell) (r5_c : Addr) (cl_r5_c : Cell) (r6_c : Addr) (cl_r6_c : Cell) (r7_c : Addr) (cl_r7_c : Cell) (r8_c : Addr) (cl_r8_c : Cell) (h0 : Heap) (n0 : Nat) (Z0 : n0 ≤ h0.size) (F : own_W Z h0 r0 r1 r2 r3 r4 r5 r6 r7 r8 r0_c cl_r0_c r1_c cl_r1_c r2_c cl_r2_c r3_c cl_r3_c r4_c cl_r4_c r5_c cl_r5_c r6_c cl_r6_c r7_c cl_r7_c r8_c cl_r8_c) (i0 : Int32) (i1 : Int32) (i2 : Int32) (hk : ((i0 &&& (2147483647 : Int32)) % (9 : Int32)) = (0 : Int32)) (hm : (i1 &&& (1 : Int32)) = (0 : Int32)) (h3 : i2 = (3 : Int32)) :
    MetFree l x (head1 (Jvm.Cond.code x code maxLocals ret :: ws) room_1) (fun a U => a = #[(.int i0), (.int i1), (.int i2)] ∧ Z.Warmed39 U.vm ∧ U.heap = h0) (fun _ _ _ _ _ => True) (fun _ U o U' => ∃ v L, o = .returned v ∧ own_Q (.int (1 : Int32)) h0 n0 v U'.heap L ∧ FrameEnd U o U' L room_1.cells room_1.slots) := by
  obtain ⟨S_r0, E_r0, S_r1, E_r1, S_r2, E_r2, S_r3, E_r3, S_r4, E_r4, S_r5, E_r5, S_r6, E_r6, S_r7, E_r7, S_r8, E_r8, F_r0_counts, Ar_r0_c, F_r1_counts, Ar_r1_c, F_r2_counts, Ar_r2_c, F_r3_counts, Ar_r3_c, F_r4_counts, Ar_r4_c, F_r5_counts, Ar_r5_c, F_r6_counts, Ar_r6_c, F_r7_counts, Ar_r7_c, F_r8_counts, Ar_r8_c, Sz_r0_c, El_r0_c_0, Sz_r1_c, El_r1_c_0, El_r1_c_1, Sz_r2_c, El_r2_c_0, Sz_r3_c, Sz_r4_c, Sz_r5_c, Sz_r6_c, Sz_r7_c, Sz_r8_c⟩ := id F
  refine MetFree.of_bodySF (plainFor_of_name own_pn_CommandTakesPinLaw) hisR ?_
  intro p e s m args below meth c s₁ Bd hml0 hP hK
  obtain ⟨rfl, hZ, hh⟩ := hP
  have hx := Bd.exec
  have hby := Bd.bytes
  have hml : c.maxLocals = 6 := hml0
  have hown : s.vm.findClass "com/example/urbana/urbana/protocol/CommandTakesPinLaw" = some m.cls := findClass_of_methodNamed Bd.named
  have X0 : Stand p l e room_1 s m #[(.int i0), (.int i1), (.int i2)] below meth c s₁ [] 0 0 := Stand.of_body Bd
  have e0 : s₁.heap = h0 := by rw [← hh, Bd.state]; rfl
  have N0 := Fr.nil n0
  have pre0 : ∀ t, Steps p.tables e below (s₁.setTop (mkF m 0 #[.val (.int i0), .val (.int i1), .val (.int i2), .unset, .unset, .unset] [])) t → Steps p.tables e below (s₁.setTop (entryFrame m #[(.int i0), (.int i1), (.int i2)] maxLocals)) t := fun t k => castTop (own_ef0_III m i0 i1 i2) k
  obtain ⟨_, _, ⟨T1, L1, k1, n1⟩, -, X1, ⟨Lc1, hQ1, l1, y1, z1⟩, st1⟩ := Jvm.LawKit.callS X0 hx (y := (⟨"com/example/urbana/urbana/protocol/CommandTakesPinLaw", "pick", "(I)Lcom/example/urbana/urbana/protocol/Command;"⟩ : MethodName)) hown (mvT hZ (hw _ (List.mem_of_getElem? (i := 1) rfl))) (mvT hZ (hw _ (List.mem_of_getElem? (i := 2) rfl))) (mvT hZ (hw _ (List.mem_of_getElem? (i := 3) rfl))) (mvT hZ (hw _ (List.mem_of_getElem? (i := 4) rfl))) (by decide) (backOf (W := 0) (own_r1_2 l Z a0 hw [] r0 r1 r2 r3 r4 r5 r6 r7 r8 r0_c cl_r0_c r1_c cl_r1_c r2_c cl_r2_c r3_c cl_r3_c r4_c cl_r4_c r5_c cl_r5_c r6_c cl_r6_c r7_c cl_r7_c r8_c cl_r8_c h0 n0 Z0 F ) hZ (hw _ (List.mem_of_getElem? (i := 4) rfl)) (hw _ (List.mem_of_getElem? (i := 3) rfl)) (by decide) (by decide)) (g := (mkF m 29 #[.val (.int i0), .val (.int i1), .val (.int i2), .val (.int (0 : Int32)), .val (.int i2), .unset] [(.int (0 : Int32))])) rfl (by rw [hml]; rfl) (argsL := [(.int (0 : Int32))]) (rest := []) (lenOf own_pd0 rfl) rfl (by show 2 * 0 + _ ≤ _; exact Nat.le_of_eq rfl) (hb hby at_29) (fun _ _ => ⟨rfl, e0, (by decide : 0 + 0 ≤ _), (by decide : 0 + 0 ≤ _)⟩)
  dsimp only [Pt.U, Pt.locs, Pt.cells, Pt.slots] at X1 l1 y1 z1 st1 hQ1
  subst l1 y1 z1
  obtain ⟨rfl, N1q, e1⟩ := hQ1
  have N1 := Fr.app N0 N1q
  obtain ⟨cq2, kq2, q2a, q2b, q2c⟩ := isOf hZ e1 E_r0
  obtain ⟨_, _, ⟨T2, L2, k2, n2⟩, -, X2, ⟨Lc2, hQ2, l2, y2, z2⟩, st2⟩ := X1.virtualBack hx (y := (⟨"com/example/urbana/urbana/protocol/Command", "takes", "(I)Z"⟩ : MethodName)) (z := (⟨"com/example/urbana/urbana/protocol/Command", "takes", "(I)Z"⟩ : MethodName)) hown (mvT hZ (hw _ (List.mem_of_getElem? (i := 8) rfl))) (mvT hZ (hw _ (List.mem_of_getElem? (i := 9) rfl))) (notFace_of_selects (args := #[]) (mvT hZ (hw _ (List.mem_of_getElem? (i := 11) rfl)))) (mvT hZ (hw _ (List.mem_of_getElem? (i := 11) rfl))) (mvT hZ (hw _ (List.mem_of_getElem? (i := 10) rfl))) (by decide) (backOf (W := 0) (own_r2_3 l Z a0 hw [] r0 r1 r2 r3 r4 r5 r6 r7 r8 r0_c cl_r0_c r1_c cl_r1_c r2_c cl_r2_c r3_c cl_r3_c r4_c cl_r4_c r5_c cl_r5_c r6_c cl_r6_c r7_c cl_r7_c r8_c cl_r8_c h0 n0 Z0 F i2 h3) hZ (hw _ (List.mem_of_getElem? (i := 12) rfl)) (hw _ (List.mem_of_getElem? (i := 6) rfl)) (by decide) (by decide)) q2a q2c (g := (mkF m 38 #[.val (.int i0), .val (.int i1), .val (.int i2), .val (.int (0 : Int32)), .val (.int i2), .val (.ref r0)] [(.int i2), (.ref r0)])) rfl (by rw [hml]; rfl) (Steps.refl _) (argsL := [(.int i2)]) (rest := []) (lenOf own_pd1 rfl) rfl (by show 2 * 0 + _ ≤ _; exact Nat.le_of_eq rfl) (hb hby at_38) (fun _ _ => ⟨rfl, e1, (by decide : 0 + 0 ≤ _), (by decide : 0 + 0 ≤ _)⟩)
  dsimp only [Pt.U, Pt.locs, Pt.cells, Pt.slots] at X2 l2 y2 z2 st2 hQ2
  subst l2 y2 z2
  obtain ⟨rfl, N2q, e2⟩ := hQ2
  have N2 := Fr.app N1 N2q
  obtain ⟨_, _, ⟨T3, L3, k3, n3⟩, -, X3, ⟨Lc3, hQ3, l3, y3, z3⟩, st3⟩ := Jvm.LawKit.callS X2 hx (y := (⟨"com/example/urbana/urbana/protocol/CommandTakesPinLaw", "expected", "(II)Z"⟩ : MethodName)) hown (mvT hZ (hw _ (List.mem_of_getElem? (i := 15) rfl))) (mvT hZ (hw _ (List.mem_of_getElem? (i := 16) rfl))) (mvT hZ (hw _ (List.mem_of_getElem? (i := 3) rfl))) (mvT hZ (hw _ (List.mem_of_getElem? (i := 17) rfl))) (by decide) (backOf (W := 1) (own_r3_4 l Z a0 hw [] r0 r1 r2 r3 r4 r5 r6 r7 r8 r0_c cl_r0_c r1_c cl_r1_c r2_c cl_r2_c r3_c cl_r3_c r4_c cl_r4_c r5_c cl_r5_c r6_c cl_r6_c r7_c cl_r7_c r8_c cl_r8_c h0 n0 Z0 F i2 h3) hZ (hw _ (List.mem_of_getElem? (i := 17) rfl)) (hw _ (List.mem_of_getElem? (i := 3) rfl)) (by decide) (by decide)) (g := (mkF m 44 #[.val (.int i0), .val (.int i1), .val (.int i2), .val (.int (0 : Int32)), .val (.int i2), .val (.ref r0)] [(.int i2), (.int (0 : Int32)), (.int (1 : Int32))])) rfl (by rw [hml]; rfl) (argsL := [(.int (0 : Int32)), (.int i2)]) (rest := [(.int (1 : Int32))]) (lenOf own_pd2 rfl) rfl (by show 2 * 0 + _ ≤ _; exact Nat.le_of_eq rfl) (hb hby at_44) (fun _ _ => ⟨rfl, e2, (by decide : 0 + 0 ≤ _), (by decide : 0 + 0 ≤ _)⟩)
  dsimp only [Pt.U, Pt.locs, Pt.cells, Pt.slots] at X3 l3 y3 z3 st3 hQ3
  subst l3 y3 z3
  obtain ⟨rfl, N3q, e3⟩ := hQ3
  have N3 := Fr.app N2 N3q
  obtain ⟨fs, hr, hrun, hended, hW, hsame⟩ := X3.leave (v := some (.int (1 : Int32))) (fun h => by rw [Bd.returns] at h; cases h)
  refine ⟨_, _, pre0 _ ?_, hrun, hended, _, _, rfl, ?_, ⟨_, rfl⟩, hW, hsame.mono (by decide) (by decide)⟩
  · show Steps p.tables e below (s₁.setTop (mkF m 0 #[.val (.int i0), .val (.int i1), .val (.int i2), .unset, .unset, .unset] [])) _
    refine XS.iloadN X0.here hx rfl (hb hby at_0) rfl ?_
    show Steps p.tables e below (s₁.setTop (mkF m 1 #[.val (.int i0), .val (.int i1), .val (.int i2), .unset, .unset, .unset] [(.int i0)])) _
    refine X0.ldcInt hx hown (mvT hZ (hw _ (List.mem_of_getElem? (i := 0) rfl))) (g := (mkF m 1 #[.val (.int i0), .val (.int i1), .val (.int i2), .unset, .unset, .unset] [(.int i0)])) rfl (hb hby at_1) _ ?_
    show Steps p.tables e below (s₁.setTop (mkF m 3 #[.val (.int i0), .val (.int i1), .val (.int i2), .unset, .unset, .unset] [(.int (2147483647 : Int32)), (.int i0)])) _
    refine XS.iand X0.here hx rfl (hb hby at_3) rfl ?_
    show Steps p.tables e below (s₁.setTop (mkF m 4 #[.val (.int i0), .val (.int i1), .val (.int i2), .unset, .unset, .unset] [(.int (i0 &&& (2147483647 : Int32)))])) _
    refine XS.bipush X0.here hx rfl (hb hby at_4) ?_
    show Steps p.tables e below (s₁.setTop (mkF m 6 #[.val (.int i0), .val (.int i1), .val (.int i2), .unset, .unset, .unset] [(.int (9 : Int32)), (.int (i0 &&& (2147483647 : Int32)))])) _
    refine iremM (g := (mkF m 6 #[.val (.int i0), .val (.int i1), .val (.int i2), .unset, .unset, .unset] [(.int (9 : Int32)), (.int (i0 &&& (2147483647 : Int32)))])) X0 hx rfl (hb hby at_6) rfl (by decide) ?_
    show Steps p.tables e below (s₁.setTop (mkF m 7 #[.val (.int i0), .val (.int i1), .val (.int i2), .unset, .unset, .unset] [(.int ((i0 &&& (2147483647 : Int32)) % (9 : Int32)))])) _
    rw [hk]
    show Steps p.tables e below (s₁.setTop (mkF m 7 #[.val (.int i0), .val (.int i1), .val (.int i2), .unset, .unset, .unset] [(.int (0 : Int32))])) _
    refine XS.istoreN X0.here hx rfl (hb hby at_7) rfl (l' := #[.val (.int i0), .val (.int i1), .val (.int i2), .val (.int (0 : Int32)), .unset, .unset]) rfl ?_
    show Steps p.tables e below (s₁.setTop (mkF m 8 #[.val (.int i0), .val (.int i1), .val (.int i2), .val (.int (0 : Int32)), .unset, .unset] [])) _
    refine XS.iloadN X0.here hx rfl (hb hby at_8) rfl ?_
    show Steps p.tables e below (s₁.setTop (mkF m 9 #[.val (.int i0), .val (.int i1), .val (.int i2), .val (.int (0 : Int32)), .unset, .unset] [(.int i1)])) _
    refine XS.iconst X0.here hx rfl (hb hby at_9) ?_
    show Steps p.tables e below (s₁.setTop (mkF m 10 #[.val (.int i0), .val (.int i1), .val (.int i2), .val (.int (0 : Int32)), .unset, .unset] [(.int (1 : Int32)), (.int i1)])) _
    refine XS.iand X0.here hx rfl (hb hby at_10) rfl ?_
    show Steps p.tables e below (s₁.setTop (mkF m 11 #[.val (.int i0), .val (.int i1), .val (.int i2), .val (.int (0 : Int32)), .unset, .unset] [(.int (i1 &&& (1 : Int32)))])) _
    rw [hm]
    show Steps p.tables e below (s₁.setTop (mkF m 11 #[.val (.int i0), .val (.int i1), .val (.int i2), .val (.int (0 : Int32)), .unset, .unset] [(.int (0 : Int32))])) _
    refine XS.ifYes X0.here hx rfl (pc0 := 11) (pc' := 25) rfl (hb hby at_11) rfl ((if0 _ _).trans (teq (by decide : (0 : Int32) = (0 : Int32))).1) (by decide) (by decide) ?_
    show Steps p.tables e below (s₁.setTop (mkF m 25 #[.val (.int i0), .val (.int i1), .val (.int i2), .val (.int (0 : Int32)), .unset, .unset] [])) _
    refine XS.iloadN X0.here hx rfl (hb hby at_25) rfl ?_
    show Steps p.tables e below (s₁.setTop (mkF m 26 #[.val (.int i0), .val (.int i1), .val (.int i2), .val (.int (0 : Int32)), .unset, .unset] [(.int i2)])) _
    refine XS.istore X0.here hx rfl (hb hby at_26) rfl (l' := #[.val (.int i0), .val (.int i1), .val (.int i2), .val (.int (0 : Int32)), .val (.int i2), .unset]) rfl ?_
    show Steps p.tables e below (s₁.setTop (mkF m 28 #[.val (.int i0), .val (.int i1), .val (.int i2), .val (.int (0 : Int32)), .val (.int i2), .unset] [])) _
    refine XS.iloadN X0.here hx rfl (hb hby at_28) rfl ?_
    show Steps p.tables e below (s₁.setTop (mkF m 29 #[.val (.int i0), .val (.int i1), .val (.int i2), .val (.int (0 : Int32)), .val (.int i2), .unset] [(.int (0 : Int32))])) _
    refine st1 _ ?_
    show Steps p.tables e below (T1.setTop (mkF m 32 #[.val (.int i0), .val (.int i1), .val (.int i2), .val (.int (0 : Int32)), .val (.int i2), .unset] [(.ref r0)])) _
    refine XS.astore X1.here hx rfl (hb hby at_32) rfl rfl (l' := #[.val (.int i0), .val (.int i1), .val (.int i2), .val (.int (0 : Int32)), .val (.int i2), .val (.ref r0)]) rfl ?_
    show Steps p.tables e below (T1.setTop (mkF m 34 #[.val (.int i0), .val (.int i1), .val (.int i2), .val (.int (0 : Int32)), .val (.int i2), .val (.ref r0)] [])) _
    refine XS.aload X1.here hx rfl (hb hby at_34) rfl rfl ?_
    show Steps p.tables e below (T1.setTop (mkF m 36 #[.val (.int i0), .val (.int i1), .val (.int i2), .val (.int (0 : Int32)), .val (.int i2), .val (.ref r0)] [(.ref r0)])) _
    refine XS.iload X1.here hx rfl (hb hby at_36) rfl ?_
    show Steps p.tables e below (T1.setTop (mkF m 38 #[.val (.int i0), .val (.int i1), .val (.int i2), .val (.int (0 : Int32)), .val (.int i2), .val (.ref r0)] [(.int i2), (.ref r0)])) _
    refine st2.trans ?_
    show Steps p.tables e below (T2.setTop (mkF m 41 #[.val (.int i0), .val (.int i1), .val (.int i2), .val (.int (0 : Int32)), .val (.int i2), .val (.ref r0)] [(.int (1 : Int32))])) _
    refine XS.iloadN X2.here hx rfl (hb hby at_41) rfl ?_
    show Steps p.tables e below (T2.setTop (mkF m 42 #[.val (.int i0), .val (.int i1), .val (.int i2), .val (.int (0 : Int32)), .val (.int i2), .val (.ref r0)] [(.int (0 : Int32)), (.int (1 : Int32))])) _
    refine XS.iload X2.here hx rfl (hb hby at_42) rfl ?_
    show Steps p.tables e below (T2.setTop (mkF m 44 #[.val (.int i0), .val (.int i1), .val (.int i2), .val (.int (0 : Int32)), .val (.int i2), .val (.ref r0)] [(.int i2), (.int (0 : Int32)), (.int (1 : Int32))])) _
    refine st3 _ ?_
    show Steps p.tables e below (T3.setTop (mkF m 47 #[.val (.int i0), .val (.int i1), .val (.int i2), .val (.int (0 : Int32)), .val (.int i2), .val (.ref r0)] [(.int (1 : Int32)), (.int (1 : Int32))])) _
    refine XS.icmpNo X3.here hx rfl (hb hby at_47) rfl (teq (by decide : (1 : Int32) = (1 : Int32))).2 ?_
    show Steps p.tables e below (T3.setTop (mkF m 50 #[.val (.int i0), .val (.int i1), .val (.int i2), .val (.int (0 : Int32)), .val (.int i2), .val (.ref r0)] [])) _
    refine XS.iconst X3.here hx rfl (hb hby at_50) ?_
    show Steps p.tables e below (T3.setTop (mkF m 51 #[.val (.int i0), .val (.int i1), .val (.int i2), .val (.int (0 : Int32)), .val (.int i2), .val (.ref r0)] [(.int (1 : Int32))])) _
    refine XS.goto X3.here hx rfl (pc0 := 51) (pc' := 55) rfl (hb hby at_51) (by decide) (by decide) ?_
    show Steps p.tables e below (T3.setTop (mkF m 55 #[.val (.int i0), .val (.int i1), .val (.int i2), .val (.int (0 : Int32)), .val (.int i2), .val (.ref r0)] [(.int (1 : Int32))])) _
    exact retN X3 hx (t := .boolean) Bd.returns (by simp) (hb hby at_55) hr
  · exact ⟨rfl, N3, e3⟩
theorem own_d2_38 : decode prog_2_method_8_code 38 = .ok (.iconst 0, 1) := by decide +kernel
set_option maxRecDepth 65536 in
set_option maxHeartbeats 40000000 in
theorem own_r2_6 (l : Launch) (Z : State) (a0 : Array Value) (hw : ∀ d ∈ tables_1, d.before a0 Z = true) (ws : List Jvm.Cond) (r0 : Addr) (r1 : Addr) (r2 : Addr) (r3 : Addr) (r4 : Addr) (r5 : Addr) (r6 : Addr) (r7 : Addr) (r8 : Addr) (r0_c : Addr) (cl_r0_c : Cell) (r1_c : Addr) (cl_r1_c : Cell) (r2_c : Addr) (cl_r2_c : Cell) (r3_c : Addr) (cl_r3_c : Cell) (r4_c : Addr) (cl_r4_c : Cell) (r5_c : Addr) (cl_r5_c : Cell) (r6_c : Addr) (cl_r6_c : Cell) (r7_c : Addr) (cl_r7_c : Cell) (r8_c : Addr) (cl_r8_c : Cell) (h0 : Heap) (n0 : Nat) (Z0 : n0 ≤ h0.size) (F : own_W Z h0 r0 r1 r2 r3 r4 r5 r6 r7 r8 r0_c cl_r0_c r1_c cl_r1_c r2_c cl_r2_c r3_c cl_r3_c r4_c cl_r4_c r5_c cl_r5_c r6_c cl_r6_c r7_c cl_r7_c r8_c cl_r8_c) (q0 : Int32) (h3 : ¬ (q0 = (3 : Int32))) :
    MetFree l (⟨"com/example/urbana/urbana/protocol/Command", "takes", "(I)Z"⟩ : MethodName) (head1 (Jvm.Cond.code (⟨"com/example/urbana/urbana/protocol/Command", "takes", "(I)Z"⟩ : MethodName) prog_2_method_8_code 7 (some .boolean) :: ws) ({ frames := 0, cells := 0, slots := 0, locals := 0 } : Room)) (fun a U => a = #[(.ref r0), (.int q0)] ∧ Z.Warmed39 U.vm ∧ U.heap = h0) (fun _ _ _ _ _ => True) (fun _ U o U' => ∃ v L, o = .returned v ∧ own_Q (.int (0 : Int32)) h0 n0 v U'.heap L ∧ FrameEnd U o U' L ({ frames := 0, cells := 0, slots := 0, locals := 0 } : Room).cells ({ frames := 0, cells := 0, slots := 0, locals := 0 } : Room).slots) := by
  obtain ⟨S_r0, E_r0, S_r1, E_r1, S_r2, E_r2, S_r3, E_r3, S_r4, E_r4, S_r5, E_r5, S_r6, E_r6, S_r7, E_r7, S_r8, E_r8, F_r0_counts, Ar_r0_c, F_r1_counts, Ar_r1_c, F_r2_counts, Ar_r2_c, F_r3_counts, Ar_r3_c, F_r4_counts, Ar_r4_c, F_r5_counts, Ar_r5_c, F_r6_counts, Ar_r6_c, F_r7_counts, Ar_r7_c, F_r8_counts, Ar_r8_c, Sz_r0_c, El_r0_c_0, Sz_r1_c, El_r1_c_0, El_r1_c_1, Sz_r2_c, El_r2_c_0, Sz_r3_c, Sz_r4_c, Sz_r5_c, Sz_r6_c, Sz_r7_c, Sz_r8_c⟩ := id F
  refine MetFree.of_bodySF (plainFor_of_name own_pn_Command) hisR ?_
  intro p e s m args below meth c s₁ Bd hml0 hP hK
  obtain ⟨rfl, hZ, hh⟩ := hP
  have hx := Bd.exec
  have hby := Bd.bytes
  have hml : c.maxLocals = 7 := hml0
  have hown : s.vm.findClass "com/example/urbana/urbana/protocol/Command" = some m.cls := findClass_of_methodNamed Bd.named
  have X0 : Stand p l e ({ frames := 0, cells := 0, slots := 0, locals := 0 } : Room) s m #[(.ref r0), (.int q0)] below meth c s₁ [] 0 0 := Stand.of_body Bd
  have e0 : s₁.heap = h0 := by rw [← hh, Bd.state]; rfl
  have N0 := Fr.nil n0
  have pre0 : ∀ t, Steps p.tables e below (s₁.setTop (mkF m 0 #[.val (.ref r0), .val (.int q0), .unset, .unset, .unset, .unset, .unset] [])) t → Steps p.tables e below (s₁.setTop (entryFrame m #[(.ref r0), (.int q0)] 7)) t := fun t k => castTop (own_ef2_RI m r0 q0) k
  obtain ⟨T1, X1, e1, st1⟩ := getF X0 hx hZ hown (host := "") (Or.inl (hw _ (List.mem_of_getElem? (i := 13) rfl))) Via.refl e0 F_r0_counts (g := (mkF m 3 #[.val (.ref r0), .val (.int q0), .val (.int (0 : Int32)), .unset, .unset, .unset, .unset] [(.ref r0)])) rfl rfl (hb hby own_d2_3)
  obtain ⟨fs, hr, hrun, hended, hW, hsame⟩ := X1.leave (v := some (.int (0 : Int32))) (fun h => by rw [Bd.returns] at h; cases h)
  refine ⟨_, _, pre0 _ ?_, hrun, hended, _, _, rfl, ?_, ⟨_, rfl⟩, hW, hsame.mono (by decide) (by decide)⟩
  · show Steps p.tables e below (s₁.setTop (mkF m 0 #[.val (.ref r0), .val (.int q0), .unset, .unset, .unset, .unset, .unset] [])) _
    refine XS.iconst X0.here hx rfl (hb hby own_d2_0) ?_
    show Steps p.tables e below (s₁.setTop (mkF m 1 #[.val (.ref r0), .val (.int q0), .unset, .unset, .unset, .unset, .unset] [(.int (0 : Int32))])) _
    refine XS.istoreN X0.here hx rfl (hb hby own_d2_1) rfl (l' := #[.val (.ref r0), .val (.int q0), .val (.int (0 : Int32)), .unset, .unset, .unset, .unset]) rfl ?_
    show Steps p.tables e below (s₁.setTop (mkF m 2 #[.val (.ref r0), .val (.int q0), .val (.int (0 : Int32)), .unset, .unset, .unset, .unset] [])) _
    refine XS.aloadN X0.here hx rfl (hb hby own_d2_2) rfl rfl ?_
    show Steps p.tables e below (s₁.setTop (mkF m 3 #[.val (.ref r0), .val (.int q0), .val (.int (0 : Int32)), .unset, .unset, .unset, .unset] [(.ref r0)])) _
    refine st1 _ ?_
    show Steps p.tables e below (T1.setTop (mkF m 6 #[.val (.ref r0), .val (.int q0), .val (.int (0 : Int32)), .unset, .unset, .unset, .unset] [(.ref r0_c)])) _
    refine XS.astoreN X1.here hx rfl (hb hby own_d2_6) rfl rfl (l' := #[.val (.ref r0), .val (.int q0), .val (.int (0 : Int32)), .val (.ref r0_c), .unset, .unset, .unset]) rfl ?_
    show Steps p.tables e below (T1.setTop (mkF m 7 #[.val (.ref r0), .val (.int q0), .val (.int (0 : Int32)), .val (.ref r0_c), .unset, .unset, .unset] [])) _
    refine XS.aloadN X1.here hx rfl (hb hby own_d2_7) rfl rfl ?_
    show Steps p.tables e below (T1.setTop (mkF m 8 #[.val (.ref r0), .val (.int q0), .val (.int (0 : Int32)), .val (.ref r0_c), .unset, .unset, .unset] [(.ref r0_c)])) _
    refine X1.arraylength hx (by rw [e1]; exact Ar_r0_c.1) (State.isArrayOf_alike hZ.alike Ar_r0_c.2.1) (g := (mkF m 8 #[.val (.ref r0), .val (.int q0), .val (.int (0 : Int32)), .val (.ref r0_c), .unset, .unset, .unset] [(.ref r0_c)])) rfl rfl (hb hby own_d2_8) _ ?_
    rw [len_of Sz_r0_c (by decide)]
    show Steps p.tables e below (T1.setTop (mkF m 9 #[.val (.ref r0), .val (.int q0), .val (.int (0 : Int32)), .val (.ref r0_c), .unset, .unset, .unset] [(.int (1 : Int32))])) _
    refine XS.istore X1.here hx rfl (hb hby own_d2_9) rfl (l' := #[.val (.ref r0), .val (.int q0), .val (.int (0 : Int32)), .val (.ref r0_c), .val (.int (1 : Int32)), .unset, .unset]) rfl ?_
    show Steps p.tables e below (T1.setTop (mkF m 11 #[.val (.ref r0), .val (.int q0), .val (.int (0 : Int32)), .val (.ref r0_c), .val (.int (1 : Int32)), .unset, .unset] [])) _
    refine XS.iconst X1.here hx rfl (hb hby own_d2_11) ?_
    show Steps p.tables e below (T1.setTop (mkF m 12 #[.val (.ref r0), .val (.int q0), .val (.int (0 : Int32)), .val (.ref r0_c), .val (.int (1 : Int32)), .unset, .unset] [(.int (0 : Int32))])) _
    refine XS.istore X1.here hx rfl (hb hby own_d2_12) rfl (l' := #[.val (.ref r0), .val (.int q0), .val (.int (0 : Int32)), .val (.ref r0_c), .val (.int (1 : Int32)), .val (.int (0 : Int32)), .unset]) rfl ?_
    show Steps p.tables e below (T1.setTop (mkF m 14 #[.val (.ref r0), .val (.int q0), .val (.int (0 : Int32)), .val (.ref r0_c), .val (.int (1 : Int32)), .val (.int (0 : Int32)), .unset] [])) _
    refine XS.iload X1.here hx rfl (hb hby own_d2_14) rfl ?_
    show Steps p.tables e below (T1.setTop (mkF m 16 #[.val (.ref r0), .val (.int q0), .val (.int (0 : Int32)), .val (.ref r0_c), .val (.int (1 : Int32)), .val (.int (0 : Int32)), .unset] [(.int (0 : Int32))])) _
    refine XS.iload X1.here hx rfl (hb hby own_d2_16) rfl ?_
    show Steps p.tables e below (T1.setTop (mkF m 18 #[.val (.ref r0), .val (.int q0), .val (.int (0 : Int32)), .val (.ref r0_c), .val (.int (1 : Int32)), .val (.int (0 : Int32)), .unset] [(.int (1 : Int32)), (.int (0 : Int32))])) _
    refine XS.icmpNo X1.here hx rfl (hb hby own_d2_18) rfl (tlt (by decide : (0 : Int32) < (1 : Int32))).2.1 ?_
    show Steps p.tables e below (T1.setTop (mkF m 21 #[.val (.ref r0), .val (.int q0), .val (.int (0 : Int32)), .val (.ref r0_c), .val (.int (1 : Int32)), .val (.int (0 : Int32)), .unset] [])) _
    refine XS.aloadN X1.here hx rfl (hb hby own_d2_21) rfl rfl ?_
    show Steps p.tables e below (T1.setTop (mkF m 22 #[.val (.ref r0), .val (.int q0), .val (.int (0 : Int32)), .val (.ref r0_c), .val (.int (1 : Int32)), .val (.int (0 : Int32)), .unset] [(.ref r0_c)])) _
    refine XS.iload X1.here hx rfl (hb hby own_d2_22) rfl ?_
    show Steps p.tables e below (T1.setTop (mkF m 24 #[.val (.ref r0), .val (.int q0), .val (.int (0 : Int32)), .val (.ref r0_c), .val (.int (1 : Int32)), .val (.int (0 : Int32)), .unset] [(.int (0 : Int32)), (.ref r0_c)])) _
    refine X1.iaload hx (j := (0 : Int32)) (v := (.int (3 : Int32))) (by rw [e1]; exact Ar_r0_c.1) (State.isArrayOf_alike hZ.alike Ar_r0_c.2.1) Ar_r0_c.2.2 (inb_of Sz_r0_c ⟨by decide, by decide⟩) El_r0_c_0 (g := (mkF m 24 #[.val (.ref r0), .val (.int q0), .val (.int (0 : Int32)), .val (.ref r0_c), .val (.int (1 : Int32)), .val (.int (0 : Int32)), .unset] [(.int (0 : Int32)), (.ref r0_c)])) rfl rfl (hb hby own_d2_24) _ ?_
    show Steps p.tables e below (T1.setTop (mkF m 25 #[.val (.ref r0), .val (.int q0), .val (.int (0 : Int32)), .val (.ref r0_c), .val (.int (1 : Int32)), .val (.int (0 : Int32)), .unset] [(.int (3 : Int32))])) _
    refine XS.istore X1.here hx rfl (hb hby own_d2_25) rfl (l' := #[.val (.ref r0), .val (.int q0), .val (.int (0 : Int32)), .val (.ref r0_c), .val (.int (1 : Int32)), .val (.int (0 : Int32)), .val (.int (3 : Int32))]) rfl ?_
    show Steps p.tables e below (T1.setTop (mkF m 27 #[.val (.ref r0), .val (.int q0), .val (.int (0 : Int32)), .val (.ref r0_c), .val (.int (1 : Int32)), .val (.int (0 : Int32)), .val (.int (3 : Int32))] [])) _
    refine XS.iloadN X1.here hx rfl (hb hby own_d2_27) rfl ?_
    show Steps p.tables e below (T1.setTop (mkF m 28 #[.val (.ref r0), .val (.int q0), .val (.int (0 : Int32)), .val (.ref r0_c), .val (.int (1 : Int32)), .val (.int (0 : Int32)), .val (.int (3 : Int32))] [(.int (0 : Int32))])) _
    refine XS.iload X1.here hx rfl (hb hby own_d2_28) rfl ?_
    show Steps p.tables e below (T1.setTop (mkF m 30 #[.val (.ref r0), .val (.int q0), .val (.int (0 : Int32)), .val (.ref r0_c), .val (.int (1 : Int32)), .val (.int (0 : Int32)), .val (.int (3 : Int32))] [(.int (3 : Int32)), (.int (0 : Int32))])) _
    refine XS.iloadN X1.here hx rfl (hb hby own_d2_30) rfl ?_
    show Steps p.tables e below (T1.setTop (mkF m 31 #[.val (.ref r0), .val (.int q0), .val (.int (0 : Int32)), .val (.ref r0_c), .val (.int (1 : Int32)), .val (.int (0 : Int32)), .val (.int (3 : Int32))] [(.int q0), (.int (3 : Int32)), (.int (0 : Int32))])) _
    refine XS.icmpYes X1.here hx rfl (pc0 := 31) (pc' := 38) rfl (hb hby own_d2_31) rfl (feq ((Ne.symm h3) : ¬ ((3 : Int32) = q0))).2 (by decide) (by decide) ?_
    show Steps p.tables e below (T1.setTop (mkF m 38 #[.val (.ref r0), .val (.int q0), .val (.int (0 : Int32)), .val (.ref r0_c), .val (.int (1 : Int32)), .val (.int (0 : Int32)), .val (.int (3 : Int32))] [(.int (0 : Int32))])) _
    refine XS.iconst X1.here hx rfl (hb hby own_d2_38) ?_
    show Steps p.tables e below (T1.setTop (mkF m 39 #[.val (.ref r0), .val (.int q0), .val (.int (0 : Int32)), .val (.ref r0_c), .val (.int (1 : Int32)), .val (.int (0 : Int32)), .val (.int (3 : Int32))] [(.int (0 : Int32)), (.int (0 : Int32))])) _
    refine XS.ior X1.here hx rfl (hb hby own_d2_39) rfl ?_
    show Steps p.tables e below (T1.setTop (mkF m 40 #[.val (.ref r0), .val (.int q0), .val (.int (0 : Int32)), .val (.ref r0_c), .val (.int (1 : Int32)), .val (.int (0 : Int32)), .val (.int (3 : Int32))] [(.int ((0 : Int32) ||| (0 : Int32)))])) _
    rw [show ((0 : Int32) ||| (0 : Int32)) = (0 : Int32) from by decide]
    show Steps p.tables e below (T1.setTop (mkF m 40 #[.val (.ref r0), .val (.int q0), .val (.int (0 : Int32)), .val (.ref r0_c), .val (.int (1 : Int32)), .val (.int (0 : Int32)), .val (.int (3 : Int32))] [(.int (0 : Int32))])) _
    refine XS.istoreN X1.here hx rfl (hb hby own_d2_40) rfl (l' := #[.val (.ref r0), .val (.int q0), .val (.int (0 : Int32)), .val (.ref r0_c), .val (.int (1 : Int32)), .val (.int (0 : Int32)), .val (.int (3 : Int32))]) rfl ?_
    show Steps p.tables e below (T1.setTop (mkF m 41 #[.val (.ref r0), .val (.int q0), .val (.int (0 : Int32)), .val (.ref r0_c), .val (.int (1 : Int32)), .val (.int (0 : Int32)), .val (.int (3 : Int32))] [])) _
    refine XS.iinc X1.here hx rfl (hb hby own_d2_41) rfl (l' := #[.val (.ref r0), .val (.int q0), .val (.int (0 : Int32)), .val (.ref r0_c), .val (.int (1 : Int32)), .val (.int ((0 : Int32) + (1 : Int32))), .val (.int (3 : Int32))]) rfl ?_
    show Steps p.tables e below (T1.setTop (mkF m 44 #[.val (.ref r0), .val (.int q0), .val (.int (0 : Int32)), .val (.ref r0_c), .val (.int (1 : Int32)), .val (.int ((0 : Int32) + (1 : Int32))), .val (.int (3 : Int32))] [])) _
    rw [show ((0 : Int32) + (1 : Int32)) = (1 : Int32) from by decide]
    show Steps p.tables e below (T1.setTop (mkF m 44 #[.val (.ref r0), .val (.int q0), .val (.int (0 : Int32)), .val (.ref r0_c), .val (.int (1 : Int32)), .val (.int (1 : Int32)), .val (.int (3 : Int32))] [])) _
    refine XS.goto X1.here hx rfl (pc0 := 44) (pc' := 14) rfl (hb hby own_d2_44) (by decide) (by decide) ?_
    show Steps p.tables e below (T1.setTop (mkF m 14 #[.val (.ref r0), .val (.int q0), .val (.int (0 : Int32)), .val (.ref r0_c), .val (.int (1 : Int32)), .val (.int (1 : Int32)), .val (.int (3 : Int32))] [])) _
    refine XS.iload X1.here hx rfl (hb hby own_d2_14) rfl ?_
    show Steps p.tables e below (T1.setTop (mkF m 16 #[.val (.ref r0), .val (.int q0), .val (.int (0 : Int32)), .val (.ref r0_c), .val (.int (1 : Int32)), .val (.int (1 : Int32)), .val (.int (3 : Int32))] [(.int (1 : Int32))])) _
    refine XS.iload X1.here hx rfl (hb hby own_d2_16) rfl ?_
    show Steps p.tables e below (T1.setTop (mkF m 18 #[.val (.ref r0), .val (.int q0), .val (.int (0 : Int32)), .val (.ref r0_c), .val (.int (1 : Int32)), .val (.int (1 : Int32)), .val (.int (3 : Int32))] [(.int (1 : Int32)), (.int (1 : Int32))])) _
    refine XS.icmpYes X1.here hx rfl (pc0 := 18) (pc' := 47) rfl (hb hby own_d2_18) rfl (flt (by decide : ¬ ((1 : Int32) < (1 : Int32)))).2.1 (by decide) (by decide) ?_
    show Steps p.tables e below (T1.setTop (mkF m 47 #[.val (.ref r0), .val (.int q0), .val (.int (0 : Int32)), .val (.ref r0_c), .val (.int (1 : Int32)), .val (.int (1 : Int32)), .val (.int (3 : Int32))] [])) _
    refine XS.iloadN X1.here hx rfl (hb hby own_d2_47) rfl ?_
    show Steps p.tables e below (T1.setTop (mkF m 48 #[.val (.ref r0), .val (.int q0), .val (.int (0 : Int32)), .val (.ref r0_c), .val (.int (1 : Int32)), .val (.int (1 : Int32)), .val (.int (3 : Int32))] [(.int (0 : Int32))])) _
    exact retN X1 hx (t := .boolean) Bd.returns (by simp) (hb hby own_d2_48) hr
  · exact ⟨rfl, N0, e1⟩
theorem own_d3_13 : decode method_3_code 13 = .ok (.iconst 0, 1) := by decide +kernel
set_option maxRecDepth 65536 in
set_option maxHeartbeats 40000000 in
theorem own_r3_7 (l : Launch) (Z : State) (a0 : Array Value) (hw : ∀ d ∈ tables_1, d.before a0 Z = true) (ws : List Jvm.Cond) (r0 : Addr) (r1 : Addr) (r2 : Addr) (r3 : Addr) (r4 : Addr) (r5 : Addr) (r6 : Addr) (r7 : Addr) (r8 : Addr) (r0_c : Addr) (cl_r0_c : Cell) (r1_c : Addr) (cl_r1_c : Cell) (r2_c : Addr) (cl_r2_c : Cell) (r3_c : Addr) (cl_r3_c : Cell) (r4_c : Addr) (cl_r4_c : Cell) (r5_c : Addr) (cl_r5_c : Cell) (r6_c : Addr) (cl_r6_c : Cell) (r7_c : Addr) (cl_r7_c : Cell) (r8_c : Addr) (cl_r8_c : Cell) (h0 : Heap) (n0 : Nat) (Z0 : n0 ≤ h0.size) (F : own_W Z h0 r0 r1 r2 r3 r4 r5 r6 r7 r8 r0_c cl_r0_c r1_c cl_r1_c r2_c cl_r2_c r3_c cl_r3_c r4_c cl_r4_c r5_c cl_r5_c r6_c cl_r6_c r7_c cl_r7_c r8_c cl_r8_c) (q0 : Int32) (h3 : ¬ (q0 = (3 : Int32))) :
    MetFree l (⟨"com/example/urbana/urbana/protocol/CommandTakesPinLaw", "expected", "(II)Z"⟩ : MethodName) (head1 (Jvm.Cond.code (⟨"com/example/urbana/urbana/protocol/CommandTakesPinLaw", "expected", "(II)Z"⟩ : MethodName) method_3_code 2 (some .boolean) :: ws) ({ frames := 0, cells := 0, slots := 0, locals := 0 } : Room)) (fun a U => a = #[(.int (0 : Int32)), (.int q0)] ∧ Z.Warmed39 U.vm ∧ U.heap = h0) (fun _ _ _ _ _ => True) (fun _ U o U' => ∃ v L, o = .returned v ∧ own_Q (.int (0 : Int32)) h0 n0 v U'.heap L ∧ FrameEnd U o U' L ({ frames := 0, cells := 0, slots := 0, locals := 0 } : Room).cells ({ frames := 0, cells := 0, slots := 0, locals := 0 } : Room).slots) := by
  obtain ⟨S_r0, E_r0, S_r1, E_r1, S_r2, E_r2, S_r3, E_r3, S_r4, E_r4, S_r5, E_r5, S_r6, E_r6, S_r7, E_r7, S_r8, E_r8, F_r0_counts, Ar_r0_c, F_r1_counts, Ar_r1_c, F_r2_counts, Ar_r2_c, F_r3_counts, Ar_r3_c, F_r4_counts, Ar_r4_c, F_r5_counts, Ar_r5_c, F_r6_counts, Ar_r6_c, F_r7_counts, Ar_r7_c, F_r8_counts, Ar_r8_c, Sz_r0_c, El_r0_c_0, Sz_r1_c, El_r1_c_0, El_r1_c_1, Sz_r2_c, El_r2_c_0, Sz_r3_c, Sz_r4_c, Sz_r5_c, Sz_r6_c, Sz_r7_c, Sz_r8_c⟩ := id F
  refine MetFree.of_bodySF (plainFor_of_name own_pn_CommandTakesPinLaw) hisR ?_
  intro p e s m args below meth c s₁ Bd hml0 hP hK
  obtain ⟨rfl, hZ, hh⟩ := hP
  have hx := Bd.exec
  have hby := Bd.bytes
  have hml : c.maxLocals = 2 := hml0
  have hown : s.vm.findClass "com/example/urbana/urbana/protocol/CommandTakesPinLaw" = some m.cls := findClass_of_methodNamed Bd.named
  have X0 : Stand p l e ({ frames := 0, cells := 0, slots := 0, locals := 0 } : Room) s m #[(.int (0 : Int32)), (.int q0)] below meth c s₁ [] 0 0 := Stand.of_body Bd
  have e0 : s₁.heap = h0 := by rw [← hh, Bd.state]; rfl
  have N0 := Fr.nil n0
  have pre0 : ∀ t, Steps p.tables e below (s₁.setTop (mkF m 0 #[.val (.int (0 : Int32)), .val (.int q0)] [])) t → Steps p.tables e below (s₁.setTop (entryFrame m #[(.int (0 : Int32)), (.int q0)] 2)) t := fun t k => castTop (own_ef3_II m (0 : Int32) q0) k
  obtain ⟨fs, hr, hrun, hended, hW, hsame⟩ := X0.leave (v := some (.int (0 : Int32))) (fun h => by rw [Bd.returns] at h; cases h)
  refine ⟨_, _, pre0 _ ?_, hrun, hended, _, _, rfl, ?_, ⟨_, rfl⟩, hW, hsame.mono (by decide) (by decide)⟩
  · show Steps p.tables e below (s₁.setTop (mkF m 0 #[.val (.int (0 : Int32)), .val (.int q0)] [])) _
    refine XS.iloadN X0.here hx rfl (hb hby own_d3_0) rfl ?_
    show Steps p.tables e below (s₁.setTop (mkF m 1 #[.val (.int (0 : Int32)), .val (.int q0)] [(.int (0 : Int32))])) _
    refine XS.ifNo X0.here hx rfl (hb hby own_d3_1) rfl ((if0 _ _).trans (teq (by decide : (0 : Int32) = (0 : Int32))).2) ?_
    show Steps p.tables e below (s₁.setTop (mkF m 4 #[.val (.int (0 : Int32)), .val (.int q0)] [])) _
    refine XS.iloadN X0.here hx rfl (hb hby own_d3_4) rfl ?_
    show Steps p.tables e below (s₁.setTop (mkF m 5 #[.val (.int (0 : Int32)), .val (.int q0)] [(.int q0)])) _
    refine XS.iconst X0.here hx rfl (hb hby own_d3_5) ?_
    show Steps p.tables e below (s₁.setTop (mkF m 6 #[.val (.int (0 : Int32)), .val (.int q0)] [(.int (3 : Int32)), (.int q0)])) _
    refine XS.icmpYes X0.here hx rfl (pc0 := 6) (pc' := 13) rfl (hb hby own_d3_6) rfl (feq (h3 : ¬ (q0 = (3 : Int32)))).2 (by decide) (by decide) ?_
    show Steps p.tables e below (s₁.setTop (mkF m 13 #[.val (.int (0 : Int32)), .val (.int q0)] [])) _
    refine XS.iconst X0.here hx rfl (hb hby own_d3_13) ?_
    show Steps p.tables e below (s₁.setTop (mkF m 14 #[.val (.int (0 : Int32)), .val (.int q0)] [(.int (0 : Int32))])) _
    exact retN X0 hx (t := .boolean) Bd.returns (by simp) (hb hby own_d3_14) hr
  · exact ⟨rfl, N0, e0⟩
set_option maxRecDepth 65536 in
set_option maxHeartbeats 40000000 in
theorem own_r0_k0m0c1 (l : Launch) (Z : State) (a0 : Array Value) (hw : ∀ d ∈ tables_1, d.before a0 Z = true) (ws : List Jvm.Cond) (r0 : Addr) (r1 : Addr) (r2 : Addr) (r3 : Addr) (r4 : Addr) (r5 : Addr) (r6 : Addr) (r7 : Addr) (r8 : Addr) (r0_c : Addr) (cl_r0_c : Cell) (r1_c : Addr) (cl_r1_c : Cell) (r2_c : Addr) (cl_r2_c : Cell) (r3_c : Addr) (cl_r3_c : Cell) (r4_c : Addr) (cl_r4_c : Cell) (r5_c : Addr) (cl_r5_c : Cell) (r6_c : Addr) (cl_r6_c : Cell) (r7_c : Addr) (cl_r7_c : Cell) (r8_c : Addr) (cl_r8_c : Cell) (h0 : Heap) (n0 : Nat) (Z0 : n0 ≤ h0.size) (F : own_W Z h0 r0 r1 r2 r3 r4 r5 r6 r7 r8 r0_c cl_r0_c r1_c cl_r1_c r2_c cl_r2_c r3_c cl_r3_c r4_c cl_r4_c r5_c cl_r5_c r6_c cl_r6_c r7_c cl_r7_c r8_c cl_r8_c) (i0 : Int32) (i1 : Int32) (i2 : Int32) (hk : ((i0 &&& (2147483647 : Int32)) % (9 : Int32)) = (0 : Int32)) (hm : (i1 &&& (1 : Int32)) = (0 : Int32)) (h3 : ¬ (i2 = (3 : Int32))) :
    MetFree l x (head1 (Jvm.Cond.code x code maxLocals ret :: ws) room_1) (fun a U => a = #[(.int i0), (.int i1), (.int i2)] ∧ Z.Warmed39 U.vm ∧ U.heap = h0) (fun _ _ _ _ _ => True) (fun _ U o U' => ∃ v L, o = .returned v ∧ own_Q (.int (1 : Int32)) h0 n0 v U'.heap L ∧ FrameEnd U o U' L room_1.cells room_1.slots) := by
  obtain ⟨S_r0, E_r0, S_r1, E_r1, S_r2, E_r2, S_r3, E_r3, S_r4, E_r4, S_r5, E_r5, S_r6, E_r6, S_r7, E_r7, S_r8, E_r8, F_r0_counts, Ar_r0_c, F_r1_counts, Ar_r1_c, F_r2_counts, Ar_r2_c, F_r3_counts, Ar_r3_c, F_r4_counts, Ar_r4_c, F_r5_counts, Ar_r5_c, F_r6_counts, Ar_r6_c, F_r7_counts, Ar_r7_c, F_r8_counts, Ar_r8_c, Sz_r0_c, El_r0_c_0, Sz_r1_c, El_r1_c_0, El_r1_c_1, Sz_r2_c, El_r2_c_0, Sz_r3_c, Sz_r4_c, Sz_r5_c, Sz_r6_c, Sz_r7_c, Sz_r8_c⟩ := id F
  refine MetFree.of_bodySF (plainFor_of_name own_pn_CommandTakesPinLaw) hisR ?_
  intro p e s m args below meth c s₁ Bd hml0 hP hK
  obtain ⟨rfl, hZ, hh⟩ := hP
  have hx := Bd.exec
  have hby := Bd.bytes
  have hml : c.maxLocals = 6 := hml0
  have hown : s.vm.findClass "com/example/urbana/urbana/protocol/CommandTakesPinLaw" = some m.cls := findClass_of_methodNamed Bd.named
  have X0 : Stand p l e room_1 s m #[(.int i0), (.int i1), (.int i2)] below meth c s₁ [] 0 0 := Stand.of_body Bd
  have e0 : s₁.heap = h0 := by rw [← hh, Bd.state]; rfl
  have N0 := Fr.nil n0
  have pre0 : ∀ t, Steps p.tables e below (s₁.setTop (mkF m 0 #[.val (.int i0), .val (.int i1), .val (.int i2), .unset, .unset, .unset] [])) t → Steps p.tables e below (s₁.setTop (entryFrame m #[(.int i0), (.int i1), (.int i2)] maxLocals)) t := fun t k => castTop (own_ef0_III m i0 i1 i2) k
  obtain ⟨_, _, ⟨T1, L1, k1, n1⟩, -, X1, ⟨Lc1, hQ1, l1, y1, z1⟩, st1⟩ := Jvm.LawKit.callS X0 hx (y := (⟨"com/example/urbana/urbana/protocol/CommandTakesPinLaw", "pick", "(I)Lcom/example/urbana/urbana/protocol/Command;"⟩ : MethodName)) hown (mvT hZ (hw _ (List.mem_of_getElem? (i := 1) rfl))) (mvT hZ (hw _ (List.mem_of_getElem? (i := 2) rfl))) (mvT hZ (hw _ (List.mem_of_getElem? (i := 3) rfl))) (mvT hZ (hw _ (List.mem_of_getElem? (i := 4) rfl))) (by decide) (backOf (W := 0) (own_r1_2 l Z a0 hw [] r0 r1 r2 r3 r4 r5 r6 r7 r8 r0_c cl_r0_c r1_c cl_r1_c r2_c cl_r2_c r3_c cl_r3_c r4_c cl_r4_c r5_c cl_r5_c r6_c cl_r6_c r7_c cl_r7_c r8_c cl_r8_c h0 n0 Z0 F ) hZ (hw _ (List.mem_of_getElem? (i := 4) rfl)) (hw _ (List.mem_of_getElem? (i := 3) rfl)) (by decide) (by decide)) (g := (mkF m 29 #[.val (.int i0), .val (.int i1), .val (.int i2), .val (.int (0 : Int32)), .val (.int i2), .unset] [(.int (0 : Int32))])) rfl (by rw [hml]; rfl) (argsL := [(.int (0 : Int32))]) (rest := []) (lenOf own_pd0 rfl) rfl (by show 2 * 0 + _ ≤ _; exact Nat.le_of_eq rfl) (hb hby at_29) (fun _ _ => ⟨rfl, e0, (by decide : 0 + 0 ≤ _), (by decide : 0 + 0 ≤ _)⟩)
  dsimp only [Pt.U, Pt.locs, Pt.cells, Pt.slots] at X1 l1 y1 z1 st1 hQ1
  subst l1 y1 z1
  obtain ⟨rfl, N1q, e1⟩ := hQ1
  have N1 := Fr.app N0 N1q
  obtain ⟨cq2, kq2, q2a, q2b, q2c⟩ := isOf hZ e1 E_r0
  obtain ⟨_, _, ⟨T2, L2, k2, n2⟩, -, X2, ⟨Lc2, hQ2, l2, y2, z2⟩, st2⟩ := X1.virtualBack hx (y := (⟨"com/example/urbana/urbana/protocol/Command", "takes", "(I)Z"⟩ : MethodName)) (z := (⟨"com/example/urbana/urbana/protocol/Command", "takes", "(I)Z"⟩ : MethodName)) hown (mvT hZ (hw _ (List.mem_of_getElem? (i := 8) rfl))) (mvT hZ (hw _ (List.mem_of_getElem? (i := 9) rfl))) (notFace_of_selects (args := #[]) (mvT hZ (hw _ (List.mem_of_getElem? (i := 11) rfl)))) (mvT hZ (hw _ (List.mem_of_getElem? (i := 11) rfl))) (mvT hZ (hw _ (List.mem_of_getElem? (i := 10) rfl))) (by decide) (backOf (W := 0) (own_r2_6 l Z a0 hw [] r0 r1 r2 r3 r4 r5 r6 r7 r8 r0_c cl_r0_c r1_c cl_r1_c r2_c cl_r2_c r3_c cl_r3_c r4_c cl_r4_c r5_c cl_r5_c r6_c cl_r6_c r7_c cl_r7_c r8_c cl_r8_c h0 n0 Z0 F i2 h3) hZ (hw _ (List.mem_of_getElem? (i := 12) rfl)) (hw _ (List.mem_of_getElem? (i := 6) rfl)) (by decide) (by decide)) q2a q2c (g := (mkF m 38 #[.val (.int i0), .val (.int i1), .val (.int i2), .val (.int (0 : Int32)), .val (.int i2), .val (.ref r0)] [(.int i2), (.ref r0)])) rfl (by rw [hml]; rfl) (Steps.refl _) (argsL := [(.int i2)]) (rest := []) (lenOf own_pd1 rfl) rfl (by show 2 * 0 + _ ≤ _; exact Nat.le_of_eq rfl) (hb hby at_38) (fun _ _ => ⟨rfl, e1, (by decide : 0 + 0 ≤ _), (by decide : 0 + 0 ≤ _)⟩)
  dsimp only [Pt.U, Pt.locs, Pt.cells, Pt.slots] at X2 l2 y2 z2 st2 hQ2
  subst l2 y2 z2
  obtain ⟨rfl, N2q, e2⟩ := hQ2
  have N2 := Fr.app N1 N2q
  obtain ⟨_, _, ⟨T3, L3, k3, n3⟩, -, X3, ⟨Lc3, hQ3, l3, y3, z3⟩, st3⟩ := Jvm.LawKit.callS X2 hx (y := (⟨"com/example/urbana/urbana/protocol/CommandTakesPinLaw", "expected", "(II)Z"⟩ : MethodName)) hown (mvT hZ (hw _ (List.mem_of_getElem? (i := 15) rfl))) (mvT hZ (hw _ (List.mem_of_getElem? (i := 16) rfl))) (mvT hZ (hw _ (List.mem_of_getElem? (i := 3) rfl))) (mvT hZ (hw _ (List.mem_of_getElem? (i := 17) rfl))) (by decide) (backOf (W := 1) (own_r3_7 l Z a0 hw [] r0 r1 r2 r3 r4 r5 r6 r7 r8 r0_c cl_r0_c r1_c cl_r1_c r2_c cl_r2_c r3_c cl_r3_c r4_c cl_r4_c r5_c cl_r5_c r6_c cl_r6_c r7_c cl_r7_c r8_c cl_r8_c h0 n0 Z0 F i2 h3) hZ (hw _ (List.mem_of_getElem? (i := 17) rfl)) (hw _ (List.mem_of_getElem? (i := 3) rfl)) (by decide) (by decide)) (g := (mkF m 44 #[.val (.int i0), .val (.int i1), .val (.int i2), .val (.int (0 : Int32)), .val (.int i2), .val (.ref r0)] [(.int i2), (.int (0 : Int32)), (.int (0 : Int32))])) rfl (by rw [hml]; rfl) (argsL := [(.int (0 : Int32)), (.int i2)]) (rest := [(.int (0 : Int32))]) (lenOf own_pd2 rfl) rfl (by show 2 * 0 + _ ≤ _; exact Nat.le_of_eq rfl) (hb hby at_44) (fun _ _ => ⟨rfl, e2, (by decide : 0 + 0 ≤ _), (by decide : 0 + 0 ≤ _)⟩)
  dsimp only [Pt.U, Pt.locs, Pt.cells, Pt.slots] at X3 l3 y3 z3 st3 hQ3
  subst l3 y3 z3
  obtain ⟨rfl, N3q, e3⟩ := hQ3
  have N3 := Fr.app N2 N3q
  obtain ⟨fs, hr, hrun, hended, hW, hsame⟩ := X3.leave (v := some (.int (1 : Int32))) (fun h => by rw [Bd.returns] at h; cases h)
  refine ⟨_, _, pre0 _ ?_, hrun, hended, _, _, rfl, ?_, ⟨_, rfl⟩, hW, hsame.mono (by decide) (by decide)⟩
  · show Steps p.tables e below (s₁.setTop (mkF m 0 #[.val (.int i0), .val (.int i1), .val (.int i2), .unset, .unset, .unset] [])) _
    refine XS.iloadN X0.here hx rfl (hb hby at_0) rfl ?_
    show Steps p.tables e below (s₁.setTop (mkF m 1 #[.val (.int i0), .val (.int i1), .val (.int i2), .unset, .unset, .unset] [(.int i0)])) _
    refine X0.ldcInt hx hown (mvT hZ (hw _ (List.mem_of_getElem? (i := 0) rfl))) (g := (mkF m 1 #[.val (.int i0), .val (.int i1), .val (.int i2), .unset, .unset, .unset] [(.int i0)])) rfl (hb hby at_1) _ ?_
    show Steps p.tables e below (s₁.setTop (mkF m 3 #[.val (.int i0), .val (.int i1), .val (.int i2), .unset, .unset, .unset] [(.int (2147483647 : Int32)), (.int i0)])) _
    refine XS.iand X0.here hx rfl (hb hby at_3) rfl ?_
    show Steps p.tables e below (s₁.setTop (mkF m 4 #[.val (.int i0), .val (.int i1), .val (.int i2), .unset, .unset, .unset] [(.int (i0 &&& (2147483647 : Int32)))])) _
    refine XS.bipush X0.here hx rfl (hb hby at_4) ?_
    show Steps p.tables e below (s₁.setTop (mkF m 6 #[.val (.int i0), .val (.int i1), .val (.int i2), .unset, .unset, .unset] [(.int (9 : Int32)), (.int (i0 &&& (2147483647 : Int32)))])) _
    refine iremM (g := (mkF m 6 #[.val (.int i0), .val (.int i1), .val (.int i2), .unset, .unset, .unset] [(.int (9 : Int32)), (.int (i0 &&& (2147483647 : Int32)))])) X0 hx rfl (hb hby at_6) rfl (by decide) ?_
    show Steps p.tables e below (s₁.setTop (mkF m 7 #[.val (.int i0), .val (.int i1), .val (.int i2), .unset, .unset, .unset] [(.int ((i0 &&& (2147483647 : Int32)) % (9 : Int32)))])) _
    rw [hk]
    show Steps p.tables e below (s₁.setTop (mkF m 7 #[.val (.int i0), .val (.int i1), .val (.int i2), .unset, .unset, .unset] [(.int (0 : Int32))])) _
    refine XS.istoreN X0.here hx rfl (hb hby at_7) rfl (l' := #[.val (.int i0), .val (.int i1), .val (.int i2), .val (.int (0 : Int32)), .unset, .unset]) rfl ?_
    show Steps p.tables e below (s₁.setTop (mkF m 8 #[.val (.int i0), .val (.int i1), .val (.int i2), .val (.int (0 : Int32)), .unset, .unset] [])) _
    refine XS.iloadN X0.here hx rfl (hb hby at_8) rfl ?_
    show Steps p.tables e below (s₁.setTop (mkF m 9 #[.val (.int i0), .val (.int i1), .val (.int i2), .val (.int (0 : Int32)), .unset, .unset] [(.int i1)])) _
    refine XS.iconst X0.here hx rfl (hb hby at_9) ?_
    show Steps p.tables e below (s₁.setTop (mkF m 10 #[.val (.int i0), .val (.int i1), .val (.int i2), .val (.int (0 : Int32)), .unset, .unset] [(.int (1 : Int32)), (.int i1)])) _
    refine XS.iand X0.here hx rfl (hb hby at_10) rfl ?_
    show Steps p.tables e below (s₁.setTop (mkF m 11 #[.val (.int i0), .val (.int i1), .val (.int i2), .val (.int (0 : Int32)), .unset, .unset] [(.int (i1 &&& (1 : Int32)))])) _
    rw [hm]
    show Steps p.tables e below (s₁.setTop (mkF m 11 #[.val (.int i0), .val (.int i1), .val (.int i2), .val (.int (0 : Int32)), .unset, .unset] [(.int (0 : Int32))])) _
    refine XS.ifYes X0.here hx rfl (pc0 := 11) (pc' := 25) rfl (hb hby at_11) rfl ((if0 _ _).trans (teq (by decide : (0 : Int32) = (0 : Int32))).1) (by decide) (by decide) ?_
    show Steps p.tables e below (s₁.setTop (mkF m 25 #[.val (.int i0), .val (.int i1), .val (.int i2), .val (.int (0 : Int32)), .unset, .unset] [])) _
    refine XS.iloadN X0.here hx rfl (hb hby at_25) rfl ?_
    show Steps p.tables e below (s₁.setTop (mkF m 26 #[.val (.int i0), .val (.int i1), .val (.int i2), .val (.int (0 : Int32)), .unset, .unset] [(.int i2)])) _
    refine XS.istore X0.here hx rfl (hb hby at_26) rfl (l' := #[.val (.int i0), .val (.int i1), .val (.int i2), .val (.int (0 : Int32)), .val (.int i2), .unset]) rfl ?_
    show Steps p.tables e below (s₁.setTop (mkF m 28 #[.val (.int i0), .val (.int i1), .val (.int i2), .val (.int (0 : Int32)), .val (.int i2), .unset] [])) _
    refine XS.iloadN X0.here hx rfl (hb hby at_28) rfl ?_
    show Steps p.tables e below (s₁.setTop (mkF m 29 #[.val (.int i0), .val (.int i1), .val (.int i2), .val (.int (0 : Int32)), .val (.int i2), .unset] [(.int (0 : Int32))])) _
    refine st1 _ ?_
    show Steps p.tables e below (T1.setTop (mkF m 32 #[.val (.int i0), .val (.int i1), .val (.int i2), .val (.int (0 : Int32)), .val (.int i2), .unset] [(.ref r0)])) _
    refine XS.astore X1.here hx rfl (hb hby at_32) rfl rfl (l' := #[.val (.int i0), .val (.int i1), .val (.int i2), .val (.int (0 : Int32)), .val (.int i2), .val (.ref r0)]) rfl ?_
    show Steps p.tables e below (T1.setTop (mkF m 34 #[.val (.int i0), .val (.int i1), .val (.int i2), .val (.int (0 : Int32)), .val (.int i2), .val (.ref r0)] [])) _
    refine XS.aload X1.here hx rfl (hb hby at_34) rfl rfl ?_
    show Steps p.tables e below (T1.setTop (mkF m 36 #[.val (.int i0), .val (.int i1), .val (.int i2), .val (.int (0 : Int32)), .val (.int i2), .val (.ref r0)] [(.ref r0)])) _
    refine XS.iload X1.here hx rfl (hb hby at_36) rfl ?_
    show Steps p.tables e below (T1.setTop (mkF m 38 #[.val (.int i0), .val (.int i1), .val (.int i2), .val (.int (0 : Int32)), .val (.int i2), .val (.ref r0)] [(.int i2), (.ref r0)])) _
    refine st2.trans ?_
    show Steps p.tables e below (T2.setTop (mkF m 41 #[.val (.int i0), .val (.int i1), .val (.int i2), .val (.int (0 : Int32)), .val (.int i2), .val (.ref r0)] [(.int (0 : Int32))])) _
    refine XS.iloadN X2.here hx rfl (hb hby at_41) rfl ?_
    show Steps p.tables e below (T2.setTop (mkF m 42 #[.val (.int i0), .val (.int i1), .val (.int i2), .val (.int (0 : Int32)), .val (.int i2), .val (.ref r0)] [(.int (0 : Int32)), (.int (0 : Int32))])) _
    refine XS.iload X2.here hx rfl (hb hby at_42) rfl ?_
    show Steps p.tables e below (T2.setTop (mkF m 44 #[.val (.int i0), .val (.int i1), .val (.int i2), .val (.int (0 : Int32)), .val (.int i2), .val (.ref r0)] [(.int i2), (.int (0 : Int32)), (.int (0 : Int32))])) _
    refine st3 _ ?_
    show Steps p.tables e below (T3.setTop (mkF m 47 #[.val (.int i0), .val (.int i1), .val (.int i2), .val (.int (0 : Int32)), .val (.int i2), .val (.ref r0)] [(.int (0 : Int32)), (.int (0 : Int32))])) _
    refine XS.icmpNo X3.here hx rfl (hb hby at_47) rfl (teq (by decide : (0 : Int32) = (0 : Int32))).2 ?_
    show Steps p.tables e below (T3.setTop (mkF m 50 #[.val (.int i0), .val (.int i1), .val (.int i2), .val (.int (0 : Int32)), .val (.int i2), .val (.ref r0)] [])) _
    refine XS.iconst X3.here hx rfl (hb hby at_50) ?_
    show Steps p.tables e below (T3.setTop (mkF m 51 #[.val (.int i0), .val (.int i1), .val (.int i2), .val (.int (0 : Int32)), .val (.int i2), .val (.ref r0)] [(.int (1 : Int32))])) _
    refine XS.goto X3.here hx rfl (pc0 := 51) (pc' := 55) rfl (hb hby at_51) (by decide) (by decide) ?_
    show Steps p.tables e below (T3.setTop (mkF m 55 #[.val (.int i0), .val (.int i1), .val (.int i2), .val (.int (0 : Int32)), .val (.int i2), .val (.ref r0)] [(.int (1 : Int32))])) _
    exact retN X3 hx (t := .boolean) Bd.returns (by simp) (hb hby at_55) hr
  · exact ⟨rfl, N3, e3⟩
set_option maxRecDepth 65536 in
set_option maxHeartbeats 40000000 in
theorem own_r0_k0m1c0 (l : Launch) (Z : State) (a0 : Array Value) (hw : ∀ d ∈ tables_1, d.before a0 Z = true) (ws : List Jvm.Cond) (r0 : Addr) (r1 : Addr) (r2 : Addr) (r3 : Addr) (r4 : Addr) (r5 : Addr) (r6 : Addr) (r7 : Addr) (r8 : Addr) (r0_c : Addr) (cl_r0_c : Cell) (r1_c : Addr) (cl_r1_c : Cell) (r2_c : Addr) (cl_r2_c : Cell) (r3_c : Addr) (cl_r3_c : Cell) (r4_c : Addr) (cl_r4_c : Cell) (r5_c : Addr) (cl_r5_c : Cell) (r6_c : Addr) (cl_r6_c : Cell) (r7_c : Addr) (cl_r7_c : Cell) (r8_c : Addr) (cl_r8_c : Cell) (h0 : Heap) (n0 : Nat) (Z0 : n0 ≤ h0.size) (F : own_W Z h0 r0 r1 r2 r3 r4 r5 r6 r7 r8 r0_c cl_r0_c r1_c cl_r1_c r2_c cl_r2_c r3_c cl_r3_c r4_c cl_r4_c r5_c cl_r5_c r6_c cl_r6_c r7_c cl_r7_c r8_c cl_r8_c) (i0 : Int32) (i1 : Int32) (i2 : Int32) (hk : ((i0 &&& (2147483647 : Int32)) % (9 : Int32)) = (0 : Int32)) (hm : (i1 &&& (1 : Int32)) = (1 : Int32)) (h3 : (((i1 >>> ((1 : Int32) &&& 31)) &&& (7 : Int32)) - (2 : Int32)) = (3 : Int32)) :
    MetFree l x (head1 (Jvm.Cond.code x code maxLocals ret :: ws) room_1) (fun a U => a = #[(.int i0), (.int i1), (.int i2)] ∧ Z.Warmed39 U.vm ∧ U.heap = h0) (fun _ _ _ _ _ => True) (fun _ U o U' => ∃ v L, o = .returned v ∧ own_Q (.int (1 : Int32)) h0 n0 v U'.heap L ∧ FrameEnd U o U' L room_1.cells room_1.slots) := by
  obtain ⟨S_r0, E_r0, S_r1, E_r1, S_r2, E_r2, S_r3, E_r3, S_r4, E_r4, S_r5, E_r5, S_r6, E_r6, S_r7, E_r7, S_r8, E_r8, F_r0_counts, Ar_r0_c, F_r1_counts, Ar_r1_c, F_r2_counts, Ar_r2_c, F_r3_counts, Ar_r3_c, F_r4_counts, Ar_r4_c, F_r5_counts, Ar_r5_c, F_r6_counts, Ar_r6_c, F_r7_counts, Ar_r7_c, F_r8_counts, Ar_r8_c, Sz_r0_c, El_r0_c_0, Sz_r1_c, El_r1_c_0, El_r1_c_1, Sz_r2_c, El_r2_c_0, Sz_r3_c, Sz_r4_c, Sz_r5_c, Sz_r6_c, Sz_r7_c, Sz_r8_c⟩ := id F
  refine MetFree.of_bodySF (plainFor_of_name own_pn_CommandTakesPinLaw) hisR ?_
  intro p e s m args below meth c s₁ Bd hml0 hP hK
  obtain ⟨rfl, hZ, hh⟩ := hP
  have hx := Bd.exec
  have hby := Bd.bytes
  have hml : c.maxLocals = 6 := hml0
  have hown : s.vm.findClass "com/example/urbana/urbana/protocol/CommandTakesPinLaw" = some m.cls := findClass_of_methodNamed Bd.named
  have X0 : Stand p l e room_1 s m #[(.int i0), (.int i1), (.int i2)] below meth c s₁ [] 0 0 := Stand.of_body Bd
  have e0 : s₁.heap = h0 := by rw [← hh, Bd.state]; rfl
  have N0 := Fr.nil n0
  have pre0 : ∀ t, Steps p.tables e below (s₁.setTop (mkF m 0 #[.val (.int i0), .val (.int i1), .val (.int i2), .unset, .unset, .unset] [])) t → Steps p.tables e below (s₁.setTop (entryFrame m #[(.int i0), (.int i1), (.int i2)] maxLocals)) t := fun t k => castTop (own_ef0_III m i0 i1 i2) k
  obtain ⟨_, _, ⟨T1, L1, k1, n1⟩, -, X1, ⟨Lc1, hQ1, l1, y1, z1⟩, st1⟩ := Jvm.LawKit.callS X0 hx (y := (⟨"com/example/urbana/urbana/protocol/CommandTakesPinLaw", "pick", "(I)Lcom/example/urbana/urbana/protocol/Command;"⟩ : MethodName)) hown (mvT hZ (hw _ (List.mem_of_getElem? (i := 1) rfl))) (mvT hZ (hw _ (List.mem_of_getElem? (i := 2) rfl))) (mvT hZ (hw _ (List.mem_of_getElem? (i := 3) rfl))) (mvT hZ (hw _ (List.mem_of_getElem? (i := 4) rfl))) (by decide) (backOf (W := 0) (own_r1_2 l Z a0 hw [] r0 r1 r2 r3 r4 r5 r6 r7 r8 r0_c cl_r0_c r1_c cl_r1_c r2_c cl_r2_c r3_c cl_r3_c r4_c cl_r4_c r5_c cl_r5_c r6_c cl_r6_c r7_c cl_r7_c r8_c cl_r8_c h0 n0 Z0 F ) hZ (hw _ (List.mem_of_getElem? (i := 4) rfl)) (hw _ (List.mem_of_getElem? (i := 3) rfl)) (by decide) (by decide)) (g := (mkF m 29 #[.val (.int i0), .val (.int i1), .val (.int i2), .val (.int (0 : Int32)), .val (.int (((i1 >>> ((1 : Int32) &&& 31)) &&& (7 : Int32)) - (2 : Int32))), .unset] [(.int (0 : Int32))])) rfl (by rw [hml]; rfl) (argsL := [(.int (0 : Int32))]) (rest := []) (lenOf own_pd0 rfl) rfl (by show 2 * 0 + _ ≤ _; exact Nat.le_of_eq rfl) (hb hby at_29) (fun _ _ => ⟨rfl, e0, (by decide : 0 + 0 ≤ _), (by decide : 0 + 0 ≤ _)⟩)
  dsimp only [Pt.U, Pt.locs, Pt.cells, Pt.slots] at X1 l1 y1 z1 st1 hQ1
  subst l1 y1 z1
  obtain ⟨rfl, N1q, e1⟩ := hQ1
  have N1 := Fr.app N0 N1q
  obtain ⟨cq2, kq2, q2a, q2b, q2c⟩ := isOf hZ e1 E_r0
  obtain ⟨_, _, ⟨T2, L2, k2, n2⟩, -, X2, ⟨Lc2, hQ2, l2, y2, z2⟩, st2⟩ := X1.virtualBack hx (y := (⟨"com/example/urbana/urbana/protocol/Command", "takes", "(I)Z"⟩ : MethodName)) (z := (⟨"com/example/urbana/urbana/protocol/Command", "takes", "(I)Z"⟩ : MethodName)) hown (mvT hZ (hw _ (List.mem_of_getElem? (i := 8) rfl))) (mvT hZ (hw _ (List.mem_of_getElem? (i := 9) rfl))) (notFace_of_selects (args := #[]) (mvT hZ (hw _ (List.mem_of_getElem? (i := 11) rfl)))) (mvT hZ (hw _ (List.mem_of_getElem? (i := 11) rfl))) (mvT hZ (hw _ (List.mem_of_getElem? (i := 10) rfl))) (by decide) (backOf (W := 0) (own_r2_3 l Z a0 hw [] r0 r1 r2 r3 r4 r5 r6 r7 r8 r0_c cl_r0_c r1_c cl_r1_c r2_c cl_r2_c r3_c cl_r3_c r4_c cl_r4_c r5_c cl_r5_c r6_c cl_r6_c r7_c cl_r7_c r8_c cl_r8_c h0 n0 Z0 F (((i1 >>> ((1 : Int32) &&& 31)) &&& (7 : Int32)) - (2 : Int32)) h3) hZ (hw _ (List.mem_of_getElem? (i := 12) rfl)) (hw _ (List.mem_of_getElem? (i := 6) rfl)) (by decide) (by decide)) q2a q2c (g := (mkF m 38 #[.val (.int i0), .val (.int i1), .val (.int i2), .val (.int (0 : Int32)), .val (.int (((i1 >>> ((1 : Int32) &&& 31)) &&& (7 : Int32)) - (2 : Int32))), .val (.ref r0)] [(.int (((i1 >>> ((1 : Int32) &&& 31)) &&& (7 : Int32)) - (2 : Int32))), (.ref r0)])) rfl (by rw [hml]; rfl) (Steps.refl _) (argsL := [(.int (((i1 >>> ((1 : Int32) &&& 31)) &&& (7 : Int32)) - (2 : Int32)))]) (rest := []) (lenOf own_pd1 rfl) rfl (by show 2 * 0 + _ ≤ _; exact Nat.le_of_eq rfl) (hb hby at_38) (fun _ _ => ⟨rfl, e1, (by decide : 0 + 0 ≤ _), (by decide : 0 + 0 ≤ _)⟩)
  dsimp only [Pt.U, Pt.locs, Pt.cells, Pt.slots] at X2 l2 y2 z2 st2 hQ2
  subst l2 y2 z2
  obtain ⟨rfl, N2q, e2⟩ := hQ2
  have N2 := Fr.app N1 N2q
  obtain ⟨_, _, ⟨T3, L3, k3, n3⟩, -, X3, ⟨Lc3, hQ3, l3, y3, z3⟩, st3⟩ := Jvm.LawKit.callS X2 hx (y := (⟨"com/example/urbana/urbana/protocol/CommandTakesPinLaw", "expected", "(II)Z"⟩ : MethodName)) hown (mvT hZ (hw _ (List.mem_of_getElem? (i := 15) rfl))) (mvT hZ (hw _ (List.mem_of_getElem? (i := 16) rfl))) (mvT hZ (hw _ (List.mem_of_getElem? (i := 3) rfl))) (mvT hZ (hw _ (List.mem_of_getElem? (i := 17) rfl))) (by decide) (backOf (W := 1) (own_r3_4 l Z a0 hw [] r0 r1 r2 r3 r4 r5 r6 r7 r8 r0_c cl_r0_c r1_c cl_r1_c r2_c cl_r2_c r3_c cl_r3_c r4_c cl_r4_c r5_c cl_r5_c r6_c cl_r6_c r7_c cl_r7_c r8_c cl_r8_c h0 n0 Z0 F (((i1 >>> ((1 : Int32) &&& 31)) &&& (7 : Int32)) - (2 : Int32)) h3) hZ (hw _ (List.mem_of_getElem? (i := 17) rfl)) (hw _ (List.mem_of_getElem? (i := 3) rfl)) (by decide) (by decide)) (g := (mkF m 44 #[.val (.int i0), .val (.int i1), .val (.int i2), .val (.int (0 : Int32)), .val (.int (((i1 >>> ((1 : Int32) &&& 31)) &&& (7 : Int32)) - (2 : Int32))), .val (.ref r0)] [(.int (((i1 >>> ((1 : Int32) &&& 31)) &&& (7 : Int32)) - (2 : Int32))), (.int (0 : Int32)), (.int (1 : Int32))])) rfl (by rw [hml]; rfl) (argsL := [(.int (0 : Int32)), (.int (((i1 >>> ((1 : Int32) &&& 31)) &&& (7 : Int32)) - (2 : Int32)))]) (rest := [(.int (1 : Int32))]) (lenOf own_pd2 rfl) rfl (by show 2 * 0 + _ ≤ _; exact Nat.le_of_eq rfl) (hb hby at_44) (fun _ _ => ⟨rfl, e2, (by decide : 0 + 0 ≤ _), (by decide : 0 + 0 ≤ _)⟩)
  dsimp only [Pt.U, Pt.locs, Pt.cells, Pt.slots] at X3 l3 y3 z3 st3 hQ3
  subst l3 y3 z3
  obtain ⟨rfl, N3q, e3⟩ := hQ3
  have N3 := Fr.app N2 N3q
  obtain ⟨fs, hr, hrun, hended, hW, hsame⟩ := X3.leave (v := some (.int (1 : Int32))) (fun h => by rw [Bd.returns] at h; cases h)
  refine ⟨_, _, pre0 _ ?_, hrun, hended, _, _, rfl, ?_, ⟨_, rfl⟩, hW, hsame.mono (by decide) (by decide)⟩
  · show Steps p.tables e below (s₁.setTop (mkF m 0 #[.val (.int i0), .val (.int i1), .val (.int i2), .unset, .unset, .unset] [])) _
    refine XS.iloadN X0.here hx rfl (hb hby at_0) rfl ?_
    show Steps p.tables e below (s₁.setTop (mkF m 1 #[.val (.int i0), .val (.int i1), .val (.int i2), .unset, .unset, .unset] [(.int i0)])) _
    refine X0.ldcInt hx hown (mvT hZ (hw _ (List.mem_of_getElem? (i := 0) rfl))) (g := (mkF m 1 #[.val (.int i0), .val (.int i1), .val (.int i2), .unset, .unset, .unset] [(.int i0)])) rfl (hb hby at_1) _ ?_
    show Steps p.tables e below (s₁.setTop (mkF m 3 #[.val (.int i0), .val (.int i1), .val (.int i2), .unset, .unset, .unset] [(.int (2147483647 : Int32)), (.int i0)])) _
    refine XS.iand X0.here hx rfl (hb hby at_3) rfl ?_
    show Steps p.tables e below (s₁.setTop (mkF m 4 #[.val (.int i0), .val (.int i1), .val (.int i2), .unset, .unset, .unset] [(.int (i0 &&& (2147483647 : Int32)))])) _
    refine XS.bipush X0.here hx rfl (hb hby at_4) ?_
    show Steps p.tables e below (s₁.setTop (mkF m 6 #[.val (.int i0), .val (.int i1), .val (.int i2), .unset, .unset, .unset] [(.int (9 : Int32)), (.int (i0 &&& (2147483647 : Int32)))])) _
    refine iremM (g := (mkF m 6 #[.val (.int i0), .val (.int i1), .val (.int i2), .unset, .unset, .unset] [(.int (9 : Int32)), (.int (i0 &&& (2147483647 : Int32)))])) X0 hx rfl (hb hby at_6) rfl (by decide) ?_
    show Steps p.tables e below (s₁.setTop (mkF m 7 #[.val (.int i0), .val (.int i1), .val (.int i2), .unset, .unset, .unset] [(.int ((i0 &&& (2147483647 : Int32)) % (9 : Int32)))])) _
    rw [hk]
    show Steps p.tables e below (s₁.setTop (mkF m 7 #[.val (.int i0), .val (.int i1), .val (.int i2), .unset, .unset, .unset] [(.int (0 : Int32))])) _
    refine XS.istoreN X0.here hx rfl (hb hby at_7) rfl (l' := #[.val (.int i0), .val (.int i1), .val (.int i2), .val (.int (0 : Int32)), .unset, .unset]) rfl ?_
    show Steps p.tables e below (s₁.setTop (mkF m 8 #[.val (.int i0), .val (.int i1), .val (.int i2), .val (.int (0 : Int32)), .unset, .unset] [])) _
    refine XS.iloadN X0.here hx rfl (hb hby at_8) rfl ?_
    show Steps p.tables e below (s₁.setTop (mkF m 9 #[.val (.int i0), .val (.int i1), .val (.int i2), .val (.int (0 : Int32)), .unset, .unset] [(.int i1)])) _
    refine XS.iconst X0.here hx rfl (hb hby at_9) ?_
    show Steps p.tables e below (s₁.setTop (mkF m 10 #[.val (.int i0), .val (.int i1), .val (.int i2), .val (.int (0 : Int32)), .unset, .unset] [(.int (1 : Int32)), (.int i1)])) _
    refine XS.iand X0.here hx rfl (hb hby at_10) rfl ?_
    show Steps p.tables e below (s₁.setTop (mkF m 11 #[.val (.int i0), .val (.int i1), .val (.int i2), .val (.int (0 : Int32)), .unset, .unset] [(.int (i1 &&& (1 : Int32)))])) _
    rw [hm]
    show Steps p.tables e below (s₁.setTop (mkF m 11 #[.val (.int i0), .val (.int i1), .val (.int i2), .val (.int (0 : Int32)), .unset, .unset] [(.int (1 : Int32))])) _
    refine XS.ifNo X0.here hx rfl (hb hby at_11) rfl ((if0 _ _).trans (feq (by decide : ¬ ((1 : Int32) = (0 : Int32)))).1) ?_
    show Steps p.tables e below (s₁.setTop (mkF m 14 #[.val (.int i0), .val (.int i1), .val (.int i2), .val (.int (0 : Int32)), .unset, .unset] [])) _
    refine XS.iloadN X0.here hx rfl (hb hby at_14) rfl ?_
    show Steps p.tables e below (s₁.setTop (mkF m 15 #[.val (.int i0), .val (.int i1), .val (.int i2), .val (.int (0 : Int32)), .unset, .unset] [(.int i1)])) _
    refine XS.iconst X0.here hx rfl (hb hby at_15) ?_
    show Steps p.tables e below (s₁.setTop (mkF m 16 #[.val (.int i0), .val (.int i1), .val (.int i2), .val (.int (0 : Int32)), .unset, .unset] [(.int (1 : Int32)), (.int i1)])) _
    refine XS.ishr X0.here hx rfl (hb hby at_16) rfl ?_
    show Steps p.tables e below (s₁.setTop (mkF m 17 #[.val (.int i0), .val (.int i1), .val (.int i2), .val (.int (0 : Int32)), .unset, .unset] [(.int (i1 >>> ((1 : Int32) &&& 31)))])) _
    refine XS.bipush X0.here hx rfl (hb hby at_17) ?_
    show Steps p.tables e below (s₁.setTop (mkF m 19 #[.val (.int i0), .val (.int i1), .val (.int i2), .val (.int (0 : Int32)), .unset, .unset] [(.int (7 : Int32)), (.int (i1 >>> ((1 : Int32) &&& 31)))])) _
    refine XS.iand X0.here hx rfl (hb hby at_19) rfl ?_
    show Steps p.tables e below (s₁.setTop (mkF m 20 #[.val (.int i0), .val (.int i1), .val (.int i2), .val (.int (0 : Int32)), .unset, .unset] [(.int ((i1 >>> ((1 : Int32) &&& 31)) &&& (7 : Int32)))])) _
    refine XS.iconst X0.here hx rfl (hb hby at_20) ?_
    show Steps p.tables e below (s₁.setTop (mkF m 21 #[.val (.int i0), .val (.int i1), .val (.int i2), .val (.int (0 : Int32)), .unset, .unset] [(.int (2 : Int32)), (.int ((i1 >>> ((1 : Int32) &&& 31)) &&& (7 : Int32)))])) _
    refine XS.isub X0.here hx rfl (hb hby at_21) rfl ?_
    show Steps p.tables e below (s₁.setTop (mkF m 22 #[.val (.int i0), .val (.int i1), .val (.int i2), .val (.int (0 : Int32)), .unset, .unset] [(.int (((i1 >>> ((1 : Int32) &&& 31)) &&& (7 : Int32)) - (2 : Int32)))])) _
    refine XS.goto X0.here hx rfl (pc0 := 22) (pc' := 26) rfl (hb hby at_22) (by decide) (by decide) ?_
    show Steps p.tables e below (s₁.setTop (mkF m 26 #[.val (.int i0), .val (.int i1), .val (.int i2), .val (.int (0 : Int32)), .unset, .unset] [(.int (((i1 >>> ((1 : Int32) &&& 31)) &&& (7 : Int32)) - (2 : Int32)))])) _
    refine XS.istore X0.here hx rfl (hb hby at_26) rfl (l' := #[.val (.int i0), .val (.int i1), .val (.int i2), .val (.int (0 : Int32)), .val (.int (((i1 >>> ((1 : Int32) &&& 31)) &&& (7 : Int32)) - (2 : Int32))), .unset]) rfl ?_
    show Steps p.tables e below (s₁.setTop (mkF m 28 #[.val (.int i0), .val (.int i1), .val (.int i2), .val (.int (0 : Int32)), .val (.int (((i1 >>> ((1 : Int32) &&& 31)) &&& (7 : Int32)) - (2 : Int32))), .unset] [])) _
    refine XS.iloadN X0.here hx rfl (hb hby at_28) rfl ?_
    show Steps p.tables e below (s₁.setTop (mkF m 29 #[.val (.int i0), .val (.int i1), .val (.int i2), .val (.int (0 : Int32)), .val (.int (((i1 >>> ((1 : Int32) &&& 31)) &&& (7 : Int32)) - (2 : Int32))), .unset] [(.int (0 : Int32))])) _
    refine st1 _ ?_
    show Steps p.tables e below (T1.setTop (mkF m 32 #[.val (.int i0), .val (.int i1), .val (.int i2), .val (.int (0 : Int32)), .val (.int (((i1 >>> ((1 : Int32) &&& 31)) &&& (7 : Int32)) - (2 : Int32))), .unset] [(.ref r0)])) _
    refine XS.astore X1.here hx rfl (hb hby at_32) rfl rfl (l' := #[.val (.int i0), .val (.int i1), .val (.int i2), .val (.int (0 : Int32)), .val (.int (((i1 >>> ((1 : Int32) &&& 31)) &&& (7 : Int32)) - (2 : Int32))), .val (.ref r0)]) rfl ?_
    show Steps p.tables e below (T1.setTop (mkF m 34 #[.val (.int i0), .val (.int i1), .val (.int i2), .val (.int (0 : Int32)), .val (.int (((i1 >>> ((1 : Int32) &&& 31)) &&& (7 : Int32)) - (2 : Int32))), .val (.ref r0)] [])) _
    refine XS.aload X1.here hx rfl (hb hby at_34) rfl rfl ?_
    show Steps p.tables e below (T1.setTop (mkF m 36 #[.val (.int i0), .val (.int i1), .val (.int i2), .val (.int (0 : Int32)), .val (.int (((i1 >>> ((1 : Int32) &&& 31)) &&& (7 : Int32)) - (2 : Int32))), .val (.ref r0)] [(.ref r0)])) _
    refine XS.iload X1.here hx rfl (hb hby at_36) rfl ?_
    show Steps p.tables e below (T1.setTop (mkF m 38 #[.val (.int i0), .val (.int i1), .val (.int i2), .val (.int (0 : Int32)), .val (.int (((i1 >>> ((1 : Int32) &&& 31)) &&& (7 : Int32)) - (2 : Int32))), .val (.ref r0)] [(.int (((i1 >>> ((1 : Int32) &&& 31)) &&& (7 : Int32)) - (2 : Int32))), (.ref r0)])) _
    refine st2.trans ?_
    show Steps p.tables e below (T2.setTop (mkF m 41 #[.val (.int i0), .val (.int i1), .val (.int i2), .val (.int (0 : Int32)), .val (.int (((i1 >>> ((1 : Int32) &&& 31)) &&& (7 : Int32)) - (2 : Int32))), .val (.ref r0)] [(.int (1 : Int32))])) _
    refine XS.iloadN X2.here hx rfl (hb hby at_41) rfl ?_
    show Steps p.tables e below (T2.setTop (mkF m 42 #[.val (.int i0), .val (.int i1), .val (.int i2), .val (.int (0 : Int32)), .val (.int (((i1 >>> ((1 : Int32) &&& 31)) &&& (7 : Int32)) - (2 : Int32))), .val (.ref r0)] [(.int (0 : Int32)), (.int (1 : Int32))])) _
    refine XS.iload X2.here hx rfl (hb hby at_42) rfl ?_
    show Steps p.tables e below (T2.setTop (mkF m 44 #[.val (.int i0), .val (.int i1), .val (.int i2), .val (.int (0 : Int32)), .val (.int (((i1 >>> ((1 : Int32) &&& 31)) &&& (7 : Int32)) - (2 : Int32))), .val (.ref r0)] [(.int (((i1 >>> ((1 : Int32) &&& 31)) &&& (7 : Int32)) - (2 : Int32))), (.int (0 : Int32)), (.int (1 : Int32))])) _
    refine st3 _ ?_
    show Steps p.tables e below (T3.setTop (mkF m 47 #[.val (.int i0), .val (.int i1), .val (.int i2), .val (.int (0 : Int32)), .val (.int (((i1 >>> ((1 : Int32) &&& 31)) &&& (7 : Int32)) - (2 : Int32))), .val (.ref r0)] [(.int (1 : Int32)), (.int (1 : Int32))])) _
    refine XS.icmpNo X3.here hx rfl (hb hby at_47) rfl (teq (by decide : (1 : Int32) = (1 : Int32))).2 ?_
    show Steps p.tables e below (T3.setTop (mkF m 50 #[.val (.int i0), .val (.int i1), .val (.int i2), .val (.int (0 : Int32)), .val (.int (((i1 >>> ((1 : Int32) &&& 31)) &&& (7 : Int32)) - (2 : Int32))), .val (.ref r0)] [])) _
    refine XS.iconst X3.here hx rfl (hb hby at_50) ?_
    show Steps p.tables e below (T3.setTop (mkF m 51 #[.val (.int i0), .val (.int i1), .val (.int i2), .val (.int (0 : Int32)), .val (.int (((i1 >>> ((1 : Int32) &&& 31)) &&& (7 : Int32)) - (2 : Int32))), .val (.ref r0)] [(.int (1 : Int32))])) _
    refine XS.goto X3.here hx rfl (pc0 := 51) (pc' := 55) rfl (hb hby at_51) (by decide) (by decide) ?_
    show Steps p.tables e below (T3.setTop (mkF m 55 #[.val (.int i0), .val (.int i1), .val (.int i2), .val (.int (0 : Int32)), .val (.int (((i1 >>> ((1 : Int32) &&& 31)) &&& (7 : Int32)) - (2 : Int32))), .val (.ref r0)] [(.int (1 : Int32))])) _
    exact retN X3 hx (t := .boolean) Bd.returns (by simp) (hb hby at_55) hr
  · exact ⟨rfl, N3, e3⟩
set_option maxRecDepth 65536 in
set_option maxHeartbeats 40000000 in
theorem own_r0_k0m1c1 (l : Launch) (Z : State) (a0 : Array Value) (hw : ∀ d ∈ tables_1, d.before a0 Z = true) (ws : List Jvm.Cond) (r0 : Addr) (r1 : Addr) (r2 : Addr) (r3 : Addr) (r4 : Addr) (r5 : Addr) (r6 : Addr) (r7 : Addr) (r8 : Addr) (r0_c : Addr) (cl_r0_c : Cell) (r1_c : Addr) (cl_r1_c : Cell) (r2_c : Addr) (cl_r2_c : Cell) (r3_c : Addr) (cl_r3_c : Cell) (r4_c : Addr) (cl_r4_c : Cell) (r5_c : Addr) (cl_r5_c : Cell) (r6_c : Addr) (cl_r6_c : Cell) (r7_c : Addr) (cl_r7_c : Cell) (r8_c : Addr) (cl_r8_c : Cell) (h0 : Heap) (n0 : Nat) (Z0 : n0 ≤ h0.size) (F : own_W Z h0 r0 r1 r2 r3 r4 r5 r6 r7 r8 r0_c cl_r0_c r1_c cl_r1_c r2_c cl_r2_c r3_c cl_r3_c r4_c cl_r4_c r5_c cl_r5_c r6_c cl_r6_c r7_c cl_r7_c r8_c cl_r8_c) (i0 : Int32) (i1 : Int32) (i2 : Int32) (hk : ((i0 &&& (2147483647 : Int32)) % (9 : Int32)) = (0 : Int32)) (hm : (i1 &&& (1 : Int32)) = (1 : Int32)) (h3 : ¬ ((((i1 >>> ((1 : Int32) &&& 31)) &&& (7 : Int32)) - (2 : Int32)) = (3 : Int32))) :
    MetFree l x (head1 (Jvm.Cond.code x code maxLocals ret :: ws) room_1) (fun a U => a = #[(.int i0), (.int i1), (.int i2)] ∧ Z.Warmed39 U.vm ∧ U.heap = h0) (fun _ _ _ _ _ => True) (fun _ U o U' => ∃ v L, o = .returned v ∧ own_Q (.int (1 : Int32)) h0 n0 v U'.heap L ∧ FrameEnd U o U' L room_1.cells room_1.slots) := by
  obtain ⟨S_r0, E_r0, S_r1, E_r1, S_r2, E_r2, S_r3, E_r3, S_r4, E_r4, S_r5, E_r5, S_r6, E_r6, S_r7, E_r7, S_r8, E_r8, F_r0_counts, Ar_r0_c, F_r1_counts, Ar_r1_c, F_r2_counts, Ar_r2_c, F_r3_counts, Ar_r3_c, F_r4_counts, Ar_r4_c, F_r5_counts, Ar_r5_c, F_r6_counts, Ar_r6_c, F_r7_counts, Ar_r7_c, F_r8_counts, Ar_r8_c, Sz_r0_c, El_r0_c_0, Sz_r1_c, El_r1_c_0, El_r1_c_1, Sz_r2_c, El_r2_c_0, Sz_r3_c, Sz_r4_c, Sz_r5_c, Sz_r6_c, Sz_r7_c, Sz_r8_c⟩ := id F
  refine MetFree.of_bodySF (plainFor_of_name own_pn_CommandTakesPinLaw) hisR ?_
  intro p e s m args below meth c s₁ Bd hml0 hP hK
  obtain ⟨rfl, hZ, hh⟩ := hP
  have hx := Bd.exec
  have hby := Bd.bytes
  have hml : c.maxLocals = 6 := hml0
  have hown : s.vm.findClass "com/example/urbana/urbana/protocol/CommandTakesPinLaw" = some m.cls := findClass_of_methodNamed Bd.named
  have X0 : Stand p l e room_1 s m #[(.int i0), (.int i1), (.int i2)] below meth c s₁ [] 0 0 := Stand.of_body Bd
  have e0 : s₁.heap = h0 := by rw [← hh, Bd.state]; rfl
  have N0 := Fr.nil n0
  have pre0 : ∀ t, Steps p.tables e below (s₁.setTop (mkF m 0 #[.val (.int i0), .val (.int i1), .val (.int i2), .unset, .unset, .unset] [])) t → Steps p.tables e below (s₁.setTop (entryFrame m #[(.int i0), (.int i1), (.int i2)] maxLocals)) t := fun t k => castTop (own_ef0_III m i0 i1 i2) k
  obtain ⟨_, _, ⟨T1, L1, k1, n1⟩, -, X1, ⟨Lc1, hQ1, l1, y1, z1⟩, st1⟩ := Jvm.LawKit.callS X0 hx (y := (⟨"com/example/urbana/urbana/protocol/CommandTakesPinLaw", "pick", "(I)Lcom/example/urbana/urbana/protocol/Command;"⟩ : MethodName)) hown (mvT hZ (hw _ (List.mem_of_getElem? (i := 1) rfl))) (mvT hZ (hw _ (List.mem_of_getElem? (i := 2) rfl))) (mvT hZ (hw _ (List.mem_of_getElem? (i := 3) rfl))) (mvT hZ (hw _ (List.mem_of_getElem? (i := 4) rfl))) (by decide) (backOf (W := 0) (own_r1_2 l Z a0 hw [] r0 r1 r2 r3 r4 r5 r6 r7 r8 r0_c cl_r0_c r1_c cl_r1_c r2_c cl_r2_c r3_c cl_r3_c r4_c cl_r4_c r5_c cl_r5_c r6_c cl_r6_c r7_c cl_r7_c r8_c cl_r8_c h0 n0 Z0 F ) hZ (hw _ (List.mem_of_getElem? (i := 4) rfl)) (hw _ (List.mem_of_getElem? (i := 3) rfl)) (by decide) (by decide)) (g := (mkF m 29 #[.val (.int i0), .val (.int i1), .val (.int i2), .val (.int (0 : Int32)), .val (.int (((i1 >>> ((1 : Int32) &&& 31)) &&& (7 : Int32)) - (2 : Int32))), .unset] [(.int (0 : Int32))])) rfl (by rw [hml]; rfl) (argsL := [(.int (0 : Int32))]) (rest := []) (lenOf own_pd0 rfl) rfl (by show 2 * 0 + _ ≤ _; exact Nat.le_of_eq rfl) (hb hby at_29) (fun _ _ => ⟨rfl, e0, (by decide : 0 + 0 ≤ _), (by decide : 0 + 0 ≤ _)⟩)
  dsimp only [Pt.U, Pt.locs, Pt.cells, Pt.slots] at X1 l1 y1 z1 st1 hQ1
  subst l1 y1 z1
  obtain ⟨rfl, N1q, e1⟩ := hQ1
  have N1 := Fr.app N0 N1q
  obtain ⟨cq2, kq2, q2a, q2b, q2c⟩ := isOf hZ e1 E_r0
  obtain ⟨_, _, ⟨T2, L2, k2, n2⟩, -, X2, ⟨Lc2, hQ2, l2, y2, z2⟩, st2⟩ := X1.virtualBack hx (y := (⟨"com/example/urbana/urbana/protocol/Command", "takes", "(I)Z"⟩ : MethodName)) (z := (⟨"com/example/urbana/urbana/protocol/Command", "takes", "(I)Z"⟩ : MethodName)) hown (mvT hZ (hw _ (List.mem_of_getElem? (i := 8) rfl))) (mvT hZ (hw _ (List.mem_of_getElem? (i := 9) rfl))) (notFace_of_selects (args := #[]) (mvT hZ (hw _ (List.mem_of_getElem? (i := 11) rfl)))) (mvT hZ (hw _ (List.mem_of_getElem? (i := 11) rfl))) (mvT hZ (hw _ (List.mem_of_getElem? (i := 10) rfl))) (by decide) (backOf (W := 0) (own_r2_6 l Z a0 hw [] r0 r1 r2 r3 r4 r5 r6 r7 r8 r0_c cl_r0_c r1_c cl_r1_c r2_c cl_r2_c r3_c cl_r3_c r4_c cl_r4_c r5_c cl_r5_c r6_c cl_r6_c r7_c cl_r7_c r8_c cl_r8_c h0 n0 Z0 F (((i1 >>> ((1 : Int32) &&& 31)) &&& (7 : Int32)) - (2 : Int32)) h3) hZ (hw _ (List.mem_of_getElem? (i := 12) rfl)) (hw _ (List.mem_of_getElem? (i := 6) rfl)) (by decide) (by decide)) q2a q2c (g := (mkF m 38 #[.val (.int i0), .val (.int i1), .val (.int i2), .val (.int (0 : Int32)), .val (.int (((i1 >>> ((1 : Int32) &&& 31)) &&& (7 : Int32)) - (2 : Int32))), .val (.ref r0)] [(.int (((i1 >>> ((1 : Int32) &&& 31)) &&& (7 : Int32)) - (2 : Int32))), (.ref r0)])) rfl (by rw [hml]; rfl) (Steps.refl _) (argsL := [(.int (((i1 >>> ((1 : Int32) &&& 31)) &&& (7 : Int32)) - (2 : Int32)))]) (rest := []) (lenOf own_pd1 rfl) rfl (by show 2 * 0 + _ ≤ _; exact Nat.le_of_eq rfl) (hb hby at_38) (fun _ _ => ⟨rfl, e1, (by decide : 0 + 0 ≤ _), (by decide : 0 + 0 ≤ _)⟩)
  dsimp only [Pt.U, Pt.locs, Pt.cells, Pt.slots] at X2 l2 y2 z2 st2 hQ2
  subst l2 y2 z2
  obtain ⟨rfl, N2q, e2⟩ := hQ2
  have N2 := Fr.app N1 N2q
  obtain ⟨_, _, ⟨T3, L3, k3, n3⟩, -, X3, ⟨Lc3, hQ3, l3, y3, z3⟩, st3⟩ := Jvm.LawKit.callS X2 hx (y := (⟨"com/example/urbana/urbana/protocol/CommandTakesPinLaw", "expected", "(II)Z"⟩ : MethodName)) hown (mvT hZ (hw _ (List.mem_of_getElem? (i := 15) rfl))) (mvT hZ (hw _ (List.mem_of_getElem? (i := 16) rfl))) (mvT hZ (hw _ (List.mem_of_getElem? (i := 3) rfl))) (mvT hZ (hw _ (List.mem_of_getElem? (i := 17) rfl))) (by decide) (backOf (W := 1) (own_r3_7 l Z a0 hw [] r0 r1 r2 r3 r4 r5 r6 r7 r8 r0_c cl_r0_c r1_c cl_r1_c r2_c cl_r2_c r3_c cl_r3_c r4_c cl_r4_c r5_c cl_r5_c r6_c cl_r6_c r7_c cl_r7_c r8_c cl_r8_c h0 n0 Z0 F (((i1 >>> ((1 : Int32) &&& 31)) &&& (7 : Int32)) - (2 : Int32)) h3) hZ (hw _ (List.mem_of_getElem? (i := 17) rfl)) (hw _ (List.mem_of_getElem? (i := 3) rfl)) (by decide) (by decide)) (g := (mkF m 44 #[.val (.int i0), .val (.int i1), .val (.int i2), .val (.int (0 : Int32)), .val (.int (((i1 >>> ((1 : Int32) &&& 31)) &&& (7 : Int32)) - (2 : Int32))), .val (.ref r0)] [(.int (((i1 >>> ((1 : Int32) &&& 31)) &&& (7 : Int32)) - (2 : Int32))), (.int (0 : Int32)), (.int (0 : Int32))])) rfl (by rw [hml]; rfl) (argsL := [(.int (0 : Int32)), (.int (((i1 >>> ((1 : Int32) &&& 31)) &&& (7 : Int32)) - (2 : Int32)))]) (rest := [(.int (0 : Int32))]) (lenOf own_pd2 rfl) rfl (by show 2 * 0 + _ ≤ _; exact Nat.le_of_eq rfl) (hb hby at_44) (fun _ _ => ⟨rfl, e2, (by decide : 0 + 0 ≤ _), (by decide : 0 + 0 ≤ _)⟩)
  dsimp only [Pt.U, Pt.locs, Pt.cells, Pt.slots] at X3 l3 y3 z3 st3 hQ3
  subst l3 y3 z3
  obtain ⟨rfl, N3q, e3⟩ := hQ3
  have N3 := Fr.app N2 N3q
  obtain ⟨fs, hr, hrun, hended, hW, hsame⟩ := X3.leave (v := some (.int (1 : Int32))) (fun h => by rw [Bd.returns] at h; cases h)
  refine ⟨_, _, pre0 _ ?_, hrun, hended, _, _, rfl, ?_, ⟨_, rfl⟩, hW, hsame.mono (by decide) (by decide)⟩
  · show Steps p.tables e below (s₁.setTop (mkF m 0 #[.val (.int i0), .val (.int i1), .val (.int i2), .unset, .unset, .unset] [])) _
    refine XS.iloadN X0.here hx rfl (hb hby at_0) rfl ?_
    show Steps p.tables e below (s₁.setTop (mkF m 1 #[.val (.int i0), .val (.int i1), .val (.int i2), .unset, .unset, .unset] [(.int i0)])) _
    refine X0.ldcInt hx hown (mvT hZ (hw _ (List.mem_of_getElem? (i := 0) rfl))) (g := (mkF m 1 #[.val (.int i0), .val (.int i1), .val (.int i2), .unset, .unset, .unset] [(.int i0)])) rfl (hb hby at_1) _ ?_
    show Steps p.tables e below (s₁.setTop (mkF m 3 #[.val (.int i0), .val (.int i1), .val (.int i2), .unset, .unset, .unset] [(.int (2147483647 : Int32)), (.int i0)])) _
    refine XS.iand X0.here hx rfl (hb hby at_3) rfl ?_
    show Steps p.tables e below (s₁.setTop (mkF m 4 #[.val (.int i0), .val (.int i1), .val (.int i2), .unset, .unset, .unset] [(.int (i0 &&& (2147483647 : Int32)))])) _
    refine XS.bipush X0.here hx rfl (hb hby at_4) ?_
    show Steps p.tables e below (s₁.setTop (mkF m 6 #[.val (.int i0), .val (.int i1), .val (.int i2), .unset, .unset, .unset] [(.int (9 : Int32)), (.int (i0 &&& (2147483647 : Int32)))])) _
    refine iremM (g := (mkF m 6 #[.val (.int i0), .val (.int i1), .val (.int i2), .unset, .unset, .unset] [(.int (9 : Int32)), (.int (i0 &&& (2147483647 : Int32)))])) X0 hx rfl (hb hby at_6) rfl (by decide) ?_
    show Steps p.tables e below (s₁.setTop (mkF m 7 #[.val (.int i0), .val (.int i1), .val (.int i2), .unset, .unset, .unset] [(.int ((i0 &&& (2147483647 : Int32)) % (9 : Int32)))])) _
    rw [hk]
    show Steps p.tables e below (s₁.setTop (mkF m 7 #[.val (.int i0), .val (.int i1), .val (.int i2), .unset, .unset, .unset] [(.int (0 : Int32))])) _
    refine XS.istoreN X0.here hx rfl (hb hby at_7) rfl (l' := #[.val (.int i0), .val (.int i1), .val (.int i2), .val (.int (0 : Int32)), .unset, .unset]) rfl ?_
    show Steps p.tables e below (s₁.setTop (mkF m 8 #[.val (.int i0), .val (.int i1), .val (.int i2), .val (.int (0 : Int32)), .unset, .unset] [])) _
    refine XS.iloadN X0.here hx rfl (hb hby at_8) rfl ?_
    show Steps p.tables e below (s₁.setTop (mkF m 9 #[.val (.int i0), .val (.int i1), .val (.int i2), .val (.int (0 : Int32)), .unset, .unset] [(.int i1)])) _
    refine XS.iconst X0.here hx rfl (hb hby at_9) ?_
    show Steps p.tables e below (s₁.setTop (mkF m 10 #[.val (.int i0), .val (.int i1), .val (.int i2), .val (.int (0 : Int32)), .unset, .unset] [(.int (1 : Int32)), (.int i1)])) _
    refine XS.iand X0.here hx rfl (hb hby at_10) rfl ?_
    show Steps p.tables e below (s₁.setTop (mkF m 11 #[.val (.int i0), .val (.int i1), .val (.int i2), .val (.int (0 : Int32)), .unset, .unset] [(.int (i1 &&& (1 : Int32)))])) _
    rw [hm]
    show Steps p.tables e below (s₁.setTop (mkF m 11 #[.val (.int i0), .val (.int i1), .val (.int i2), .val (.int (0 : Int32)), .unset, .unset] [(.int (1 : Int32))])) _
    refine XS.ifNo X0.here hx rfl (hb hby at_11) rfl ((if0 _ _).trans (feq (by decide : ¬ ((1 : Int32) = (0 : Int32)))).1) ?_
    show Steps p.tables e below (s₁.setTop (mkF m 14 #[.val (.int i0), .val (.int i1), .val (.int i2), .val (.int (0 : Int32)), .unset, .unset] [])) _
    refine XS.iloadN X0.here hx rfl (hb hby at_14) rfl ?_
    show Steps p.tables e below (s₁.setTop (mkF m 15 #[.val (.int i0), .val (.int i1), .val (.int i2), .val (.int (0 : Int32)), .unset, .unset] [(.int i1)])) _
    refine XS.iconst X0.here hx rfl (hb hby at_15) ?_
    show Steps p.tables e below (s₁.setTop (mkF m 16 #[.val (.int i0), .val (.int i1), .val (.int i2), .val (.int (0 : Int32)), .unset, .unset] [(.int (1 : Int32)), (.int i1)])) _
    refine XS.ishr X0.here hx rfl (hb hby at_16) rfl ?_
    show Steps p.tables e below (s₁.setTop (mkF m 17 #[.val (.int i0), .val (.int i1), .val (.int i2), .val (.int (0 : Int32)), .unset, .unset] [(.int (i1 >>> ((1 : Int32) &&& 31)))])) _
    refine XS.bipush X0.here hx rfl (hb hby at_17) ?_
    show Steps p.tables e below (s₁.setTop (mkF m 19 #[.val (.int i0), .val (.int i1), .val (.int i2), .val (.int (0 : Int32)), .unset, .unset] [(.int (7 : Int32)), (.int (i1 >>> ((1 : Int32) &&& 31)))])) _
    refine XS.iand X0.here hx rfl (hb hby at_19) rfl ?_
    show Steps p.tables e below (s₁.setTop (mkF m 20 #[.val (.int i0), .val (.int i1), .val (.int i2), .val (.int (0 : Int32)), .unset, .unset] [(.int ((i1 >>> ((1 : Int32) &&& 31)) &&& (7 : Int32)))])) _
    refine XS.iconst X0.here hx rfl (hb hby at_20) ?_
    show Steps p.tables e below (s₁.setTop (mkF m 21 #[.val (.int i0), .val (.int i1), .val (.int i2), .val (.int (0 : Int32)), .unset, .unset] [(.int (2 : Int32)), (.int ((i1 >>> ((1 : Int32) &&& 31)) &&& (7 : Int32)))])) _
    refine XS.isub X0.here hx rfl (hb hby at_21) rfl ?_
    show Steps p.tables e below (s₁.setTop (mkF m 22 #[.val (.int i0), .val (.int i1), .val (.int i2), .val (.int (0 : Int32)), .unset, .unset] [(.int (((i1 >>> ((1 : Int32) &&& 31)) &&& (7 : Int32)) - (2 : Int32)))])) _
    refine XS.goto X0.here hx rfl (pc0 := 22) (pc' := 26) rfl (hb hby at_22) (by decide) (by decide) ?_
    show Steps p.tables e below (s₁.setTop (mkF m 26 #[.val (.int i0), .val (.int i1), .val (.int i2), .val (.int (0 : Int32)), .unset, .unset] [(.int (((i1 >>> ((1 : Int32) &&& 31)) &&& (7 : Int32)) - (2 : Int32)))])) _
    refine XS.istore X0.here hx rfl (hb hby at_26) rfl (l' := #[.val (.int i0), .val (.int i1), .val (.int i2), .val (.int (0 : Int32)), .val (.int (((i1 >>> ((1 : Int32) &&& 31)) &&& (7 : Int32)) - (2 : Int32))), .unset]) rfl ?_
    show Steps p.tables e below (s₁.setTop (mkF m 28 #[.val (.int i0), .val (.int i1), .val (.int i2), .val (.int (0 : Int32)), .val (.int (((i1 >>> ((1 : Int32) &&& 31)) &&& (7 : Int32)) - (2 : Int32))), .unset] [])) _
    refine XS.iloadN X0.here hx rfl (hb hby at_28) rfl ?_
    show Steps p.tables e below (s₁.setTop (mkF m 29 #[.val (.int i0), .val (.int i1), .val (.int i2), .val (.int (0 : Int32)), .val (.int (((i1 >>> ((1 : Int32) &&& 31)) &&& (7 : Int32)) - (2 : Int32))), .unset] [(.int (0 : Int32))])) _
    refine st1 _ ?_
    show Steps p.tables e below (T1.setTop (mkF m 32 #[.val (.int i0), .val (.int i1), .val (.int i2), .val (.int (0 : Int32)), .val (.int (((i1 >>> ((1 : Int32) &&& 31)) &&& (7 : Int32)) - (2 : Int32))), .unset] [(.ref r0)])) _
    refine XS.astore X1.here hx rfl (hb hby at_32) rfl rfl (l' := #[.val (.int i0), .val (.int i1), .val (.int i2), .val (.int (0 : Int32)), .val (.int (((i1 >>> ((1 : Int32) &&& 31)) &&& (7 : Int32)) - (2 : Int32))), .val (.ref r0)]) rfl ?_
    show Steps p.tables e below (T1.setTop (mkF m 34 #[.val (.int i0), .val (.int i1), .val (.int i2), .val (.int (0 : Int32)), .val (.int (((i1 >>> ((1 : Int32) &&& 31)) &&& (7 : Int32)) - (2 : Int32))), .val (.ref r0)] [])) _
    refine XS.aload X1.here hx rfl (hb hby at_34) rfl rfl ?_
    show Steps p.tables e below (T1.setTop (mkF m 36 #[.val (.int i0), .val (.int i1), .val (.int i2), .val (.int (0 : Int32)), .val (.int (((i1 >>> ((1 : Int32) &&& 31)) &&& (7 : Int32)) - (2 : Int32))), .val (.ref r0)] [(.ref r0)])) _
    refine XS.iload X1.here hx rfl (hb hby at_36) rfl ?_
    show Steps p.tables e below (T1.setTop (mkF m 38 #[.val (.int i0), .val (.int i1), .val (.int i2), .val (.int (0 : Int32)), .val (.int (((i1 >>> ((1 : Int32) &&& 31)) &&& (7 : Int32)) - (2 : Int32))), .val (.ref r0)] [(.int (((i1 >>> ((1 : Int32) &&& 31)) &&& (7 : Int32)) - (2 : Int32))), (.ref r0)])) _
    refine st2.trans ?_
    show Steps p.tables e below (T2.setTop (mkF m 41 #[.val (.int i0), .val (.int i1), .val (.int i2), .val (.int (0 : Int32)), .val (.int (((i1 >>> ((1 : Int32) &&& 31)) &&& (7 : Int32)) - (2 : Int32))), .val (.ref r0)] [(.int (0 : Int32))])) _
    refine XS.iloadN X2.here hx rfl (hb hby at_41) rfl ?_
    show Steps p.tables e below (T2.setTop (mkF m 42 #[.val (.int i0), .val (.int i1), .val (.int i2), .val (.int (0 : Int32)), .val (.int (((i1 >>> ((1 : Int32) &&& 31)) &&& (7 : Int32)) - (2 : Int32))), .val (.ref r0)] [(.int (0 : Int32)), (.int (0 : Int32))])) _
    refine XS.iload X2.here hx rfl (hb hby at_42) rfl ?_
    show Steps p.tables e below (T2.setTop (mkF m 44 #[.val (.int i0), .val (.int i1), .val (.int i2), .val (.int (0 : Int32)), .val (.int (((i1 >>> ((1 : Int32) &&& 31)) &&& (7 : Int32)) - (2 : Int32))), .val (.ref r0)] [(.int (((i1 >>> ((1 : Int32) &&& 31)) &&& (7 : Int32)) - (2 : Int32))), (.int (0 : Int32)), (.int (0 : Int32))])) _
    refine st3 _ ?_
    show Steps p.tables e below (T3.setTop (mkF m 47 #[.val (.int i0), .val (.int i1), .val (.int i2), .val (.int (0 : Int32)), .val (.int (((i1 >>> ((1 : Int32) &&& 31)) &&& (7 : Int32)) - (2 : Int32))), .val (.ref r0)] [(.int (0 : Int32)), (.int (0 : Int32))])) _
    refine XS.icmpNo X3.here hx rfl (hb hby at_47) rfl (teq (by decide : (0 : Int32) = (0 : Int32))).2 ?_
    show Steps p.tables e below (T3.setTop (mkF m 50 #[.val (.int i0), .val (.int i1), .val (.int i2), .val (.int (0 : Int32)), .val (.int (((i1 >>> ((1 : Int32) &&& 31)) &&& (7 : Int32)) - (2 : Int32))), .val (.ref r0)] [])) _
    refine XS.iconst X3.here hx rfl (hb hby at_50) ?_
    show Steps p.tables e below (T3.setTop (mkF m 51 #[.val (.int i0), .val (.int i1), .val (.int i2), .val (.int (0 : Int32)), .val (.int (((i1 >>> ((1 : Int32) &&& 31)) &&& (7 : Int32)) - (2 : Int32))), .val (.ref r0)] [(.int (1 : Int32))])) _
    refine XS.goto X3.here hx rfl (pc0 := 51) (pc' := 55) rfl (hb hby at_51) (by decide) (by decide) ?_
    show Steps p.tables e below (T3.setTop (mkF m 55 #[.val (.int i0), .val (.int i1), .val (.int i2), .val (.int (0 : Int32)), .val (.int (((i1 >>> ((1 : Int32) &&& 31)) &&& (7 : Int32)) - (2 : Int32))), .val (.ref r0)] [(.int (1 : Int32))])) _
    exact retN X3 hx (t := .boolean) Bd.returns (by simp) (hb hby at_55) hr
  · exact ⟨rfl, N3, e3⟩
theorem own_d1_8 : decode method_2_code 8 = .ok (.iload_n 0, 1) := by decide +kernel
theorem own_d1_9 : decode method_2_code 9 = .ok (.iconst 1, 1) := by decide +kernel
theorem own_d1_10 : decode method_2_code 10 = .ok (.if_icmp .ne 7, 3) := by decide +kernel
theorem own_d1_13 : decode method_2_code 13 = .ok (.getstatic 13, 3) := by decide +kernel
theorem own_d1_16 : decode method_2_code 16 = .ok (.areturn, 1) := by decide +kernel
set_option maxRecDepth 65536 in
set_option maxHeartbeats 40000000 in
theorem own_r1_11 (l : Launch) (Z : State) (a0 : Array Value) (hw : ∀ d ∈ tables_1, d.before a0 Z = true) (ws : List Jvm.Cond) (r0 : Addr) (r1 : Addr) (r2 : Addr) (r3 : Addr) (r4 : Addr) (r5 : Addr) (r6 : Addr) (r7 : Addr) (r8 : Addr) (r0_c : Addr) (cl_r0_c : Cell) (r1_c : Addr) (cl_r1_c : Cell) (r2_c : Addr) (cl_r2_c : Cell) (r3_c : Addr) (cl_r3_c : Cell) (r4_c : Addr) (cl_r4_c : Cell) (r5_c : Addr) (cl_r5_c : Cell) (r6_c : Addr) (cl_r6_c : Cell) (r7_c : Addr) (cl_r7_c : Cell) (r8_c : Addr) (cl_r8_c : Cell) (h0 : Heap) (n0 : Nat) (Z0 : n0 ≤ h0.size) (F : own_W Z h0 r0 r1 r2 r3 r4 r5 r6 r7 r8 r0_c cl_r0_c r1_c cl_r1_c r2_c cl_r2_c r3_c cl_r3_c r4_c cl_r4_c r5_c cl_r5_c r6_c cl_r6_c r7_c cl_r7_c r8_c cl_r8_c)   :
    MetFree l (⟨"com/example/urbana/urbana/protocol/CommandTakesPinLaw", "pick", "(I)Lcom/example/urbana/urbana/protocol/Command;"⟩ : MethodName) (head1 (Jvm.Cond.code (⟨"com/example/urbana/urbana/protocol/CommandTakesPinLaw", "pick", "(I)Lcom/example/urbana/urbana/protocol/Command;"⟩ : MethodName) method_2_code 1 (some (.object "com/example/urbana/urbana/protocol/Command")) :: ws) ({ frames := 0, cells := 0, slots := 0, locals := 0 } : Room)) (fun a U => a = #[(.int (1 : Int32))] ∧ Z.Warmed39 U.vm ∧ U.heap = h0) (fun _ _ _ _ _ => True) (fun _ U o U' => ∃ v L, o = .returned v ∧ own_Q (.ref r1) h0 n0 v U'.heap L ∧ FrameEnd U o U' L ({ frames := 0, cells := 0, slots := 0, locals := 0 } : Room).cells ({ frames := 0, cells := 0, slots := 0, locals := 0 } : Room).slots) := by
  obtain ⟨S_r0, E_r0, S_r1, E_r1, S_r2, E_r2, S_r3, E_r3, S_r4, E_r4, S_r5, E_r5, S_r6, E_r6, S_r7, E_r7, S_r8, E_r8, F_r0_counts, Ar_r0_c, F_r1_counts, Ar_r1_c, F_r2_counts, Ar_r2_c, F_r3_counts, Ar_r3_c, F_r4_counts, Ar_r4_c, F_r5_counts, Ar_r5_c, F_r6_counts, Ar_r6_c, F_r7_counts, Ar_r7_c, F_r8_counts, Ar_r8_c, Sz_r0_c, El_r0_c_0, Sz_r1_c, El_r1_c_0, El_r1_c_1, Sz_r2_c, El_r2_c_0, Sz_r3_c, Sz_r4_c, Sz_r5_c, Sz_r6_c, Sz_r7_c, Sz_r8_c⟩ := id F
  refine MetFree.of_bodySF (plainFor_of_name own_pn_CommandTakesPinLaw) hisR ?_
  intro p e s m args below meth c s₁ Bd hml0 hP hK
  obtain ⟨rfl, hZ, hh⟩ := hP
  have hx := Bd.exec
  have hby := Bd.bytes
  have hml : c.maxLocals = 1 := hml0
  have hown : s.vm.findClass "com/example/urbana/urbana/protocol/CommandTakesPinLaw" = some m.cls := findClass_of_methodNamed Bd.named
  have X0 : Stand p l e ({ frames := 0, cells := 0, slots := 0, locals := 0 } : Room) s m #[(.int (1 : Int32))] below meth c s₁ [] 0 0 := Stand.of_body Bd
  have e0 : s₁.heap = h0 := by rw [← hh, Bd.state]; rfl
  have N0 := Fr.nil n0
  have pre0 : ∀ t, Steps p.tables e below (s₁.setTop (mkF m 0 #[.val (.int (1 : Int32))] [])) t → Steps p.tables e below (s₁.setTop (entryFrame m #[(.int (1 : Int32))] 1)) t := fun t k => castTop (own_ef1_I m (1 : Int32)) k
  obtain ⟨T1, X1, e1, st1⟩ := getS2 X0 hx hZ hown (host := "") (Or.inl (hw _ (List.mem_of_getElem? (i := 18) rfl))) Via.refl e0 S_r1 (g := (mkF m 13 #[.val (.int (1 : Int32))] [])) rfl (hb hby own_d1_13)
  obtain ⟨fs, hr, hrun, hended, hW, hsame⟩ := X1.leave (v := some (.ref r1)) (fun h => by rw [Bd.returns] at h; cases h)
  refine ⟨_, _, pre0 _ ?_, hrun, hended, _, _, rfl, ?_, ⟨_, rfl⟩, hW, hsame.mono (by decide) (by decide)⟩
  · show Steps p.tables e below (s₁.setTop (mkF m 0 #[.val (.int (1 : Int32))] [])) _
    refine XS.iloadN X0.here hx rfl (hb hby own_d1_0) rfl ?_
    show Steps p.tables e below (s₁.setTop (mkF m 1 #[.val (.int (1 : Int32))] [(.int (1 : Int32))])) _
    refine XS.ifYes X0.here hx rfl (pc0 := 1) (pc' := 8) rfl (hb hby own_d1_1) rfl ((if0 _ _).trans (feq (by decide : ¬ ((1 : Int32) = (0 : Int32)))).2) (by decide) (by decide) ?_
    show Steps p.tables e below (s₁.setTop (mkF m 8 #[.val (.int (1 : Int32))] [])) _
    refine XS.iloadN X0.here hx rfl (hb hby own_d1_8) rfl ?_
    show Steps p.tables e below (s₁.setTop (mkF m 9 #[.val (.int (1 : Int32))] [(.int (1 : Int32))])) _
    refine XS.iconst X0.here hx rfl (hb hby own_d1_9) ?_
    show Steps p.tables e below (s₁.setTop (mkF m 10 #[.val (.int (1 : Int32))] [(.int (1 : Int32)), (.int (1 : Int32))])) _
    refine XS.icmpNo X0.here hx rfl (hb hby own_d1_10) rfl (teq (by decide : (1 : Int32) = (1 : Int32))).2 ?_
    show Steps p.tables e below (s₁.setTop (mkF m 13 #[.val (.int (1 : Int32))] [])) _
    refine st1 _ ?_
    show Steps p.tables e below (T1.setTop (mkF m 16 #[.val (.int (1 : Int32))] [(.ref r1)])) _
    jvm_step X1.here [X1.here.top, hx, (hb hby own_d1_16), X1.method', Bd.returns, Value.isRef, FieldType.isReference]
    first | (intro acts; rw [hr _ acts rfl rfl rfl]) | rw [hr _ _ rfl rfl rfl]
    exact Steps.refl _
  · exact ⟨rfl, N0, e1⟩
set_option maxRecDepth 65536 in
set_option maxHeartbeats 40000000 in
theorem own_r2_12 (l : Launch) (Z : State) (a0 : Array Value) (hw : ∀ d ∈ tables_1, d.before a0 Z = true) (ws : List Jvm.Cond) (r0 : Addr) (r1 : Addr) (r2 : Addr) (r3 : Addr) (r4 : Addr) (r5 : Addr) (r6 : Addr) (r7 : Addr) (r8 : Addr) (r0_c : Addr) (cl_r0_c : Cell) (r1_c : Addr) (cl_r1_c : Cell) (r2_c : Addr) (cl_r2_c : Cell) (r3_c : Addr) (cl_r3_c : Cell) (r4_c : Addr) (cl_r4_c : Cell) (r5_c : Addr) (cl_r5_c : Cell) (r6_c : Addr) (cl_r6_c : Cell) (r7_c : Addr) (cl_r7_c : Cell) (r8_c : Addr) (cl_r8_c : Cell) (h0 : Heap) (n0 : Nat) (Z0 : n0 ≤ h0.size) (F : own_W Z h0 r0 r1 r2 r3 r4 r5 r6 r7 r8 r0_c cl_r0_c r1_c cl_r1_c r2_c cl_r2_c r3_c cl_r3_c r4_c cl_r4_c r5_c cl_r5_c r6_c cl_r6_c r7_c cl_r7_c r8_c cl_r8_c) (q0 : Int32) (h0' : q0 = (0 : Int32)) (h3 : ¬ (q0 = (3 : Int32))) :
    MetFree l (⟨"com/example/urbana/urbana/protocol/Command", "takes", "(I)Z"⟩ : MethodName) (head1 (Jvm.Cond.code (⟨"com/example/urbana/urbana/protocol/Command", "takes", "(I)Z"⟩ : MethodName) prog_2_method_8_code 7 (some .boolean) :: ws) ({ frames := 0, cells := 0, slots := 0, locals := 0 } : Room)) (fun a U => a = #[(.ref r1), (.int q0)] ∧ Z.Warmed39 U.vm ∧ U.heap = h0) (fun _ _ _ _ _ => True) (fun _ U o U' => ∃ v L, o = .returned v ∧ own_Q (.int (1 : Int32)) h0 n0 v U'.heap L ∧ FrameEnd U o U' L ({ frames := 0, cells := 0, slots := 0, locals := 0 } : Room).cells ({ frames := 0, cells := 0, slots := 0, locals := 0 } : Room).slots) := by
  obtain ⟨S_r0, E_r0, S_r1, E_r1, S_r2, E_r2, S_r3, E_r3, S_r4, E_r4, S_r5, E_r5, S_r6, E_r6, S_r7, E_r7, S_r8, E_r8, F_r0_counts, Ar_r0_c, F_r1_counts, Ar_r1_c, F_r2_counts, Ar_r2_c, F_r3_counts, Ar_r3_c, F_r4_counts, Ar_r4_c, F_r5_counts, Ar_r5_c, F_r6_counts, Ar_r6_c, F_r7_counts, Ar_r7_c, F_r8_counts, Ar_r8_c, Sz_r0_c, El_r0_c_0, Sz_r1_c, El_r1_c_0, El_r1_c_1, Sz_r2_c, El_r2_c_0, Sz_r3_c, Sz_r4_c, Sz_r5_c, Sz_r6_c, Sz_r7_c, Sz_r8_c⟩ := id F
  refine MetFree.of_bodySF (plainFor_of_name own_pn_Command) hisR ?_
  intro p e s m args below meth c s₁ Bd hml0 hP hK
  obtain ⟨rfl, hZ, hh⟩ := hP
  have hx := Bd.exec
  have hby := Bd.bytes
  have hml : c.maxLocals = 7 := hml0
  have hown : s.vm.findClass "com/example/urbana/urbana/protocol/Command" = some m.cls := findClass_of_methodNamed Bd.named
  have X0 : Stand p l e ({ frames := 0, cells := 0, slots := 0, locals := 0 } : Room) s m #[(.ref r1), (.int q0)] below meth c s₁ [] 0 0 := Stand.of_body Bd
  have e0 : s₁.heap = h0 := by rw [← hh, Bd.state]; rfl
  have N0 := Fr.nil n0
  have pre0 : ∀ t, Steps p.tables e below (s₁.setTop (mkF m 0 #[.val (.ref r1), .val (.int q0), .unset, .unset, .unset, .unset, .unset] [])) t → Steps p.tables e below (s₁.setTop (entryFrame m #[(.ref r1), (.int q0)] 7)) t := fun t k => castTop (own_ef2_RI m r1 q0) k
  obtain ⟨T1, X1, e1, st1⟩ := getF X0 hx hZ hown (host := "") (Or.inl (hw _ (List.mem_of_getElem? (i := 13) rfl))) Via.refl e0 F_r1_counts (g := (mkF m 3 #[.val (.ref r1), .val (.int q0), .val (.int (0 : Int32)), .unset, .unset, .unset, .unset] [(.ref r1)])) rfl rfl (hb hby own_d2_3)
  obtain ⟨fs, hr, hrun, hended, hW, hsame⟩ := X1.leave (v := some (.int (1 : Int32))) (fun h => by rw [Bd.returns] at h; cases h)
  refine ⟨_, _, pre0 _ ?_, hrun, hended, _, _, rfl, ?_, ⟨_, rfl⟩, hW, hsame.mono (by decide) (by decide)⟩
  · show Steps p.tables e below (s₁.setTop (mkF m 0 #[.val (.ref r1), .val (.int q0), .unset, .unset, .unset, .unset, .unset] [])) _
    refine XS.iconst X0.here hx rfl (hb hby own_d2_0) ?_
    show Steps p.tables e below (s₁.setTop (mkF m 1 #[.val (.ref r1), .val (.int q0), .unset, .unset, .unset, .unset, .unset] [(.int (0 : Int32))])) _
    refine XS.istoreN X0.here hx rfl (hb hby own_d2_1) rfl (l' := #[.val (.ref r1), .val (.int q0), .val (.int (0 : Int32)), .unset, .unset, .unset, .unset]) rfl ?_
    show Steps p.tables e below (s₁.setTop (mkF m 2 #[.val (.ref r1), .val (.int q0), .val (.int (0 : Int32)), .unset, .unset, .unset, .unset] [])) _
    refine XS.aloadN X0.here hx rfl (hb hby own_d2_2) rfl rfl ?_
    show Steps p.tables e below (s₁.setTop (mkF m 3 #[.val (.ref r1), .val (.int q0), .val (.int (0 : Int32)), .unset, .unset, .unset, .unset] [(.ref r1)])) _
    refine st1 _ ?_
    show Steps p.tables e below (T1.setTop (mkF m 6 #[.val (.ref r1), .val (.int q0), .val (.int (0 : Int32)), .unset, .unset, .unset, .unset] [(.ref r1_c)])) _
    refine XS.astoreN X1.here hx rfl (hb hby own_d2_6) rfl rfl (l' := #[.val (.ref r1), .val (.int q0), .val (.int (0 : Int32)), .val (.ref r1_c), .unset, .unset, .unset]) rfl ?_
    show Steps p.tables e below (T1.setTop (mkF m 7 #[.val (.ref r1), .val (.int q0), .val (.int (0 : Int32)), .val (.ref r1_c), .unset, .unset, .unset] [])) _
    refine XS.aloadN X1.here hx rfl (hb hby own_d2_7) rfl rfl ?_
    show Steps p.tables e below (T1.setTop (mkF m 8 #[.val (.ref r1), .val (.int q0), .val (.int (0 : Int32)), .val (.ref r1_c), .unset, .unset, .unset] [(.ref r1_c)])) _
    refine X1.arraylength hx (by rw [e1]; exact Ar_r1_c.1) (State.isArrayOf_alike hZ.alike Ar_r1_c.2.1) (g := (mkF m 8 #[.val (.ref r1), .val (.int q0), .val (.int (0 : Int32)), .val (.ref r1_c), .unset, .unset, .unset] [(.ref r1_c)])) rfl rfl (hb hby own_d2_8) _ ?_
    rw [len_of Sz_r1_c (by decide)]
    show Steps p.tables e below (T1.setTop (mkF m 9 #[.val (.ref r1), .val (.int q0), .val (.int (0 : Int32)), .val (.ref r1_c), .unset, .unset, .unset] [(.int (2 : Int32))])) _
    refine XS.istore X1.here hx rfl (hb hby own_d2_9) rfl (l' := #[.val (.ref r1), .val (.int q0), .val (.int (0 : Int32)), .val (.ref r1_c), .val (.int (2 : Int32)), .unset, .unset]) rfl ?_
    show Steps p.tables e below (T1.setTop (mkF m 11 #[.val (.ref r1), .val (.int q0), .val (.int (0 : Int32)), .val (.ref r1_c), .val (.int (2 : Int32)), .unset, .unset] [])) _
    refine XS.iconst X1.here hx rfl (hb hby own_d2_11) ?_
    show Steps p.tables e below (T1.setTop (mkF m 12 #[.val (.ref r1), .val (.int q0), .val (.int (0 : Int32)), .val (.ref r1_c), .val (.int (2 : Int32)), .unset, .unset] [(.int (0 : Int32))])) _
    refine XS.istore X1.here hx rfl (hb hby own_d2_12) rfl (l' := #[.val (.ref r1), .val (.int q0), .val (.int (0 : Int32)), .val (.ref r1_c), .val (.int (2 : Int32)), .val (.int (0 : Int32)), .unset]) rfl ?_
    show Steps p.tables e below (T1.setTop (mkF m 14 #[.val (.ref r1), .val (.int q0), .val (.int (0 : Int32)), .val (.ref r1_c), .val (.int (2 : Int32)), .val (.int (0 : Int32)), .unset] [])) _
    refine XS.iload X1.here hx rfl (hb hby own_d2_14) rfl ?_
    show Steps p.tables e below (T1.setTop (mkF m 16 #[.val (.ref r1), .val (.int q0), .val (.int (0 : Int32)), .val (.ref r1_c), .val (.int (2 : Int32)), .val (.int (0 : Int32)), .unset] [(.int (0 : Int32))])) _
    refine XS.iload X1.here hx rfl (hb hby own_d2_16) rfl ?_
    show Steps p.tables e below (T1.setTop (mkF m 18 #[.val (.ref r1), .val (.int q0), .val (.int (0 : Int32)), .val (.ref r1_c), .val (.int (2 : Int32)), .val (.int (0 : Int32)), .unset] [(.int (2 : Int32)), (.int (0 : Int32))])) _
    refine XS.icmpNo X1.here hx rfl (hb hby own_d2_18) rfl (tlt (by decide : (0 : Int32) < (2 : Int32))).2.1 ?_
    show Steps p.tables e below (T1.setTop (mkF m 21 #[.val (.ref r1), .val (.int q0), .val (.int (0 : Int32)), .val (.ref r1_c), .val (.int (2 : Int32)), .val (.int (0 : Int32)), .unset] [])) _
    refine XS.aloadN X1.here hx rfl (hb hby own_d2_21) rfl rfl ?_
    show Steps p.tables e below (T1.setTop (mkF m 22 #[.val (.ref r1), .val (.int q0), .val (.int (0 : Int32)), .val (.ref r1_c), .val (.int (2 : Int32)), .val (.int (0 : Int32)), .unset] [(.ref r1_c)])) _
    refine XS.iload X1.here hx rfl (hb hby own_d2_22) rfl ?_
    show Steps p.tables e below (T1.setTop (mkF m 24 #[.val (.ref r1), .val (.int q0), .val (.int (0 : Int32)), .val (.ref r1_c), .val (.int (2 : Int32)), .val (.int (0 : Int32)), .unset] [(.int (0 : Int32)), (.ref r1_c)])) _
    refine X1.iaload hx (j := (0 : Int32)) (v := (.int (0 : Int32))) (by rw [e1]; exact Ar_r1_c.1) (State.isArrayOf_alike hZ.alike Ar_r1_c.2.1) Ar_r1_c.2.2 (inb_of Sz_r1_c ⟨by decide, by decide⟩) El_r1_c_0 (g := (mkF m 24 #[.val (.ref r1), .val (.int q0), .val (.int (0 : Int32)), .val (.ref r1_c), .val (.int (2 : Int32)), .val (.int (0 : Int32)), .unset] [(.int (0 : Int32)), (.ref r1_c)])) rfl rfl (hb hby own_d2_24) _ ?_
    show Steps p.tables e below (T1.setTop (mkF m 25 #[.val (.ref r1), .val (.int q0), .val (.int (0 : Int32)), .val (.ref r1_c), .val (.int (2 : Int32)), .val (.int (0 : Int32)), .unset] [(.int (0 : Int32))])) _
    refine XS.istore X1.here hx rfl (hb hby own_d2_25) rfl (l' := #[.val (.ref r1), .val (.int q0), .val (.int (0 : Int32)), .val (.ref r1_c), .val (.int (2 : Int32)), .val (.int (0 : Int32)), .val (.int (0 : Int32))]) rfl ?_
    show Steps p.tables e below (T1.setTop (mkF m 27 #[.val (.ref r1), .val (.int q0), .val (.int (0 : Int32)), .val (.ref r1_c), .val (.int (2 : Int32)), .val (.int (0 : Int32)), .val (.int (0 : Int32))] [])) _
    refine XS.iloadN X1.here hx rfl (hb hby own_d2_27) rfl ?_
    show Steps p.tables e below (T1.setTop (mkF m 28 #[.val (.ref r1), .val (.int q0), .val (.int (0 : Int32)), .val (.ref r1_c), .val (.int (2 : Int32)), .val (.int (0 : Int32)), .val (.int (0 : Int32))] [(.int (0 : Int32))])) _
    refine XS.iload X1.here hx rfl (hb hby own_d2_28) rfl ?_
    show Steps p.tables e below (T1.setTop (mkF m 30 #[.val (.ref r1), .val (.int q0), .val (.int (0 : Int32)), .val (.ref r1_c), .val (.int (2 : Int32)), .val (.int (0 : Int32)), .val (.int (0 : Int32))] [(.int (0 : Int32)), (.int (0 : Int32))])) _
    refine XS.iloadN X1.here hx rfl (hb hby own_d2_30) rfl ?_
    show Steps p.tables e below (T1.setTop (mkF m 31 #[.val (.ref r1), .val (.int q0), .val (.int (0 : Int32)), .val (.ref r1_c), .val (.int (2 : Int32)), .val (.int (0 : Int32)), .val (.int (0 : Int32))] [(.int q0), (.int (0 : Int32)), (.int (0 : Int32))])) _
    refine XS.icmpNo X1.here hx rfl (hb hby own_d2_31) rfl (teq (h0'.symm : (0 : Int32) = q0)).2 ?_
    show Steps p.tables e below (T1.setTop (mkF m 34 #[.val (.ref r1), .val (.int q0), .val (.int (0 : Int32)), .val (.ref r1_c), .val (.int (2 : Int32)), .val (.int (0 : Int32)), .val (.int (0 : Int32))] [(.int (0 : Int32))])) _
    refine XS.iconst X1.here hx rfl (hb hby own_d2_34) ?_
    show Steps p.tables e below (T1.setTop (mkF m 35 #[.val (.ref r1), .val (.int q0), .val (.int (0 : Int32)), .val (.ref r1_c), .val (.int (2 : Int32)), .val (.int (0 : Int32)), .val (.int (0 : Int32))] [(.int (1 : Int32)), (.int (0 : Int32))])) _
    refine XS.goto X1.here hx rfl (pc0 := 35) (pc' := 39) rfl (hb hby own_d2_35) (by decide) (by decide) ?_
    show Steps p.tables e below (T1.setTop (mkF m 39 #[.val (.ref r1), .val (.int q0), .val (.int (0 : Int32)), .val (.ref r1_c), .val (.int (2 : Int32)), .val (.int (0 : Int32)), .val (.int (0 : Int32))] [(.int (1 : Int32)), (.int (0 : Int32))])) _
    refine XS.ior X1.here hx rfl (hb hby own_d2_39) rfl ?_
    show Steps p.tables e below (T1.setTop (mkF m 40 #[.val (.ref r1), .val (.int q0), .val (.int (0 : Int32)), .val (.ref r1_c), .val (.int (2 : Int32)), .val (.int (0 : Int32)), .val (.int (0 : Int32))] [(.int ((0 : Int32) ||| (1 : Int32)))])) _
    rw [show ((0 : Int32) ||| (1 : Int32)) = (1 : Int32) from by decide]
    show Steps p.tables e below (T1.setTop (mkF m 40 #[.val (.ref r1), .val (.int q0), .val (.int (0 : Int32)), .val (.ref r1_c), .val (.int (2 : Int32)), .val (.int (0 : Int32)), .val (.int (0 : Int32))] [(.int (1 : Int32))])) _
    refine XS.istoreN X1.here hx rfl (hb hby own_d2_40) rfl (l' := #[.val (.ref r1), .val (.int q0), .val (.int (1 : Int32)), .val (.ref r1_c), .val (.int (2 : Int32)), .val (.int (0 : Int32)), .val (.int (0 : Int32))]) rfl ?_
    show Steps p.tables e below (T1.setTop (mkF m 41 #[.val (.ref r1), .val (.int q0), .val (.int (1 : Int32)), .val (.ref r1_c), .val (.int (2 : Int32)), .val (.int (0 : Int32)), .val (.int (0 : Int32))] [])) _
    refine XS.iinc X1.here hx rfl (hb hby own_d2_41) rfl (l' := #[.val (.ref r1), .val (.int q0), .val (.int (1 : Int32)), .val (.ref r1_c), .val (.int (2 : Int32)), .val (.int ((0 : Int32) + (1 : Int32))), .val (.int (0 : Int32))]) rfl ?_
    show Steps p.tables e below (T1.setTop (mkF m 44 #[.val (.ref r1), .val (.int q0), .val (.int (1 : Int32)), .val (.ref r1_c), .val (.int (2 : Int32)), .val (.int ((0 : Int32) + (1 : Int32))), .val (.int (0 : Int32))] [])) _
    rw [show ((0 : Int32) + (1 : Int32)) = (1 : Int32) from by decide]
    show Steps p.tables e below (T1.setTop (mkF m 44 #[.val (.ref r1), .val (.int q0), .val (.int (1 : Int32)), .val (.ref r1_c), .val (.int (2 : Int32)), .val (.int (1 : Int32)), .val (.int (0 : Int32))] [])) _
    refine XS.goto X1.here hx rfl (pc0 := 44) (pc' := 14) rfl (hb hby own_d2_44) (by decide) (by decide) ?_
    show Steps p.tables e below (T1.setTop (mkF m 14 #[.val (.ref r1), .val (.int q0), .val (.int (1 : Int32)), .val (.ref r1_c), .val (.int (2 : Int32)), .val (.int (1 : Int32)), .val (.int (0 : Int32))] [])) _
    refine XS.iload X1.here hx rfl (hb hby own_d2_14) rfl ?_
    show Steps p.tables e below (T1.setTop (mkF m 16 #[.val (.ref r1), .val (.int q0), .val (.int (1 : Int32)), .val (.ref r1_c), .val (.int (2 : Int32)), .val (.int (1 : Int32)), .val (.int (0 : Int32))] [(.int (1 : Int32))])) _
    refine XS.iload X1.here hx rfl (hb hby own_d2_16) rfl ?_
    show Steps p.tables e below (T1.setTop (mkF m 18 #[.val (.ref r1), .val (.int q0), .val (.int (1 : Int32)), .val (.ref r1_c), .val (.int (2 : Int32)), .val (.int (1 : Int32)), .val (.int (0 : Int32))] [(.int (2 : Int32)), (.int (1 : Int32))])) _
    refine XS.icmpNo X1.here hx rfl (hb hby own_d2_18) rfl (tlt (by decide : (1 : Int32) < (2 : Int32))).2.1 ?_
    show Steps p.tables e below (T1.setTop (mkF m 21 #[.val (.ref r1), .val (.int q0), .val (.int (1 : Int32)), .val (.ref r1_c), .val (.int (2 : Int32)), .val (.int (1 : Int32)), .val (.int (0 : Int32))] [])) _
    refine XS.aloadN X1.here hx rfl (hb hby own_d2_21) rfl rfl ?_
    show Steps p.tables e below (T1.setTop (mkF m 22 #[.val (.ref r1), .val (.int q0), .val (.int (1 : Int32)), .val (.ref r1_c), .val (.int (2 : Int32)), .val (.int (1 : Int32)), .val (.int (0 : Int32))] [(.ref r1_c)])) _
    refine XS.iload X1.here hx rfl (hb hby own_d2_22) rfl ?_
    show Steps p.tables e below (T1.setTop (mkF m 24 #[.val (.ref r1), .val (.int q0), .val (.int (1 : Int32)), .val (.ref r1_c), .val (.int (2 : Int32)), .val (.int (1 : Int32)), .val (.int (0 : Int32))] [(.int (1 : Int32)), (.ref r1_c)])) _
    refine X1.iaload hx (j := (1 : Int32)) (v := (.int (3 : Int32))) (by rw [e1]; exact Ar_r1_c.1) (State.isArrayOf_alike hZ.alike Ar_r1_c.2.1) Ar_r1_c.2.2 (inb_of Sz_r1_c ⟨by decide, by decide⟩) El_r1_c_1 (g := (mkF m 24 #[.val (.ref r1), .val (.int q0), .val (.int (1 : Int32)), .val (.ref r1_c), .val (.int (2 : Int32)), .val (.int (1 : Int32)), .val (.int (0 : Int32))] [(.int (1 : Int32)), (.ref r1_c)])) rfl rfl (hb hby own_d2_24) _ ?_
    show Steps p.tables e below (T1.setTop (mkF m 25 #[.val (.ref r1), .val (.int q0), .val (.int (1 : Int32)), .val (.ref r1_c), .val (.int (2 : Int32)), .val (.int (1 : Int32)), .val (.int (0 : Int32))] [(.int (3 : Int32))])) _
    refine XS.istore X1.here hx rfl (hb hby own_d2_25) rfl (l' := #[.val (.ref r1), .val (.int q0), .val (.int (1 : Int32)), .val (.ref r1_c), .val (.int (2 : Int32)), .val (.int (1 : Int32)), .val (.int (3 : Int32))]) rfl ?_
    show Steps p.tables e below (T1.setTop (mkF m 27 #[.val (.ref r1), .val (.int q0), .val (.int (1 : Int32)), .val (.ref r1_c), .val (.int (2 : Int32)), .val (.int (1 : Int32)), .val (.int (3 : Int32))] [])) _
    refine XS.iloadN X1.here hx rfl (hb hby own_d2_27) rfl ?_
    show Steps p.tables e below (T1.setTop (mkF m 28 #[.val (.ref r1), .val (.int q0), .val (.int (1 : Int32)), .val (.ref r1_c), .val (.int (2 : Int32)), .val (.int (1 : Int32)), .val (.int (3 : Int32))] [(.int (1 : Int32))])) _
    refine XS.iload X1.here hx rfl (hb hby own_d2_28) rfl ?_
    show Steps p.tables e below (T1.setTop (mkF m 30 #[.val (.ref r1), .val (.int q0), .val (.int (1 : Int32)), .val (.ref r1_c), .val (.int (2 : Int32)), .val (.int (1 : Int32)), .val (.int (3 : Int32))] [(.int (3 : Int32)), (.int (1 : Int32))])) _
    refine XS.iloadN X1.here hx rfl (hb hby own_d2_30) rfl ?_
    show Steps p.tables e below (T1.setTop (mkF m 31 #[.val (.ref r1), .val (.int q0), .val (.int (1 : Int32)), .val (.ref r1_c), .val (.int (2 : Int32)), .val (.int (1 : Int32)), .val (.int (3 : Int32))] [(.int q0), (.int (3 : Int32)), (.int (1 : Int32))])) _
    refine XS.icmpYes X1.here hx rfl (pc0 := 31) (pc' := 38) rfl (hb hby own_d2_31) rfl (feq ((Ne.symm h3) : ¬ ((3 : Int32) = q0))).2 (by decide) (by decide) ?_
    show Steps p.tables e below (T1.setTop (mkF m 38 #[.val (.ref r1), .val (.int q0), .val (.int (1 : Int32)), .val (.ref r1_c), .val (.int (2 : Int32)), .val (.int (1 : Int32)), .val (.int (3 : Int32))] [(.int (1 : Int32))])) _
    refine XS.iconst X1.here hx rfl (hb hby own_d2_38) ?_
    show Steps p.tables e below (T1.setTop (mkF m 39 #[.val (.ref r1), .val (.int q0), .val (.int (1 : Int32)), .val (.ref r1_c), .val (.int (2 : Int32)), .val (.int (1 : Int32)), .val (.int (3 : Int32))] [(.int (0 : Int32)), (.int (1 : Int32))])) _
    refine XS.ior X1.here hx rfl (hb hby own_d2_39) rfl ?_
    show Steps p.tables e below (T1.setTop (mkF m 40 #[.val (.ref r1), .val (.int q0), .val (.int (1 : Int32)), .val (.ref r1_c), .val (.int (2 : Int32)), .val (.int (1 : Int32)), .val (.int (3 : Int32))] [(.int ((1 : Int32) ||| (0 : Int32)))])) _
    rw [show ((1 : Int32) ||| (0 : Int32)) = (1 : Int32) from by decide]
    show Steps p.tables e below (T1.setTop (mkF m 40 #[.val (.ref r1), .val (.int q0), .val (.int (1 : Int32)), .val (.ref r1_c), .val (.int (2 : Int32)), .val (.int (1 : Int32)), .val (.int (3 : Int32))] [(.int (1 : Int32))])) _
    refine XS.istoreN X1.here hx rfl (hb hby own_d2_40) rfl (l' := #[.val (.ref r1), .val (.int q0), .val (.int (1 : Int32)), .val (.ref r1_c), .val (.int (2 : Int32)), .val (.int (1 : Int32)), .val (.int (3 : Int32))]) rfl ?_
    show Steps p.tables e below (T1.setTop (mkF m 41 #[.val (.ref r1), .val (.int q0), .val (.int (1 : Int32)), .val (.ref r1_c), .val (.int (2 : Int32)), .val (.int (1 : Int32)), .val (.int (3 : Int32))] [])) _
    refine XS.iinc X1.here hx rfl (hb hby own_d2_41) rfl (l' := #[.val (.ref r1), .val (.int q0), .val (.int (1 : Int32)), .val (.ref r1_c), .val (.int (2 : Int32)), .val (.int ((1 : Int32) + (1 : Int32))), .val (.int (3 : Int32))]) rfl ?_
    show Steps p.tables e below (T1.setTop (mkF m 44 #[.val (.ref r1), .val (.int q0), .val (.int (1 : Int32)), .val (.ref r1_c), .val (.int (2 : Int32)), .val (.int ((1 : Int32) + (1 : Int32))), .val (.int (3 : Int32))] [])) _
    rw [show ((1 : Int32) + (1 : Int32)) = (2 : Int32) from by decide]
    show Steps p.tables e below (T1.setTop (mkF m 44 #[.val (.ref r1), .val (.int q0), .val (.int (1 : Int32)), .val (.ref r1_c), .val (.int (2 : Int32)), .val (.int (2 : Int32)), .val (.int (3 : Int32))] [])) _
    refine XS.goto X1.here hx rfl (pc0 := 44) (pc' := 14) rfl (hb hby own_d2_44) (by decide) (by decide) ?_
    show Steps p.tables e below (T1.setTop (mkF m 14 #[.val (.ref r1), .val (.int q0), .val (.int (1 : Int32)), .val (.ref r1_c), .val (.int (2 : Int32)), .val (.int (2 : Int32)), .val (.int (3 : Int32))] [])) _
    refine XS.iload X1.here hx rfl (hb hby own_d2_14) rfl ?_
    show Steps p.tables e below (T1.setTop (mkF m 16 #[.val (.ref r1), .val (.int q0), .val (.int (1 : Int32)), .val (.ref r1_c), .val (.int (2 : Int32)), .val (.int (2 : Int32)), .val (.int (3 : Int32))] [(.int (2 : Int32))])) _
    refine XS.iload X1.here hx rfl (hb hby own_d2_16) rfl ?_
    show Steps p.tables e below (T1.setTop (mkF m 18 #[.val (.ref r1), .val (.int q0), .val (.int (1 : Int32)), .val (.ref r1_c), .val (.int (2 : Int32)), .val (.int (2 : Int32)), .val (.int (3 : Int32))] [(.int (2 : Int32)), (.int (2 : Int32))])) _
    refine XS.icmpYes X1.here hx rfl (pc0 := 18) (pc' := 47) rfl (hb hby own_d2_18) rfl (flt (by decide : ¬ ((2 : Int32) < (2 : Int32)))).2.1 (by decide) (by decide) ?_
    show Steps p.tables e below (T1.setTop (mkF m 47 #[.val (.ref r1), .val (.int q0), .val (.int (1 : Int32)), .val (.ref r1_c), .val (.int (2 : Int32)), .val (.int (2 : Int32)), .val (.int (3 : Int32))] [])) _
    refine XS.iloadN X1.here hx rfl (hb hby own_d2_47) rfl ?_
    show Steps p.tables e below (T1.setTop (mkF m 48 #[.val (.ref r1), .val (.int q0), .val (.int (1 : Int32)), .val (.ref r1_c), .val (.int (2 : Int32)), .val (.int (2 : Int32)), .val (.int (3 : Int32))] [(.int (1 : Int32))])) _
    exact retN X1 hx (t := .boolean) Bd.returns (by simp) (hb hby own_d2_48) hr
  · exact ⟨rfl, N0, e1⟩
theorem own_d3_15 : decode method_3_code 15 = .ok (.iload_n 0, 1) := by decide +kernel
theorem own_d3_16 : decode method_3_code 16 = .ok (.iconst 1, 1) := by decide +kernel
theorem own_d3_17 : decode method_3_code 17 = .ok (.if_icmp .ne 18, 3) := by decide +kernel
theorem own_d3_20 : decode method_3_code 20 = .ok (.iload_n 1, 1) := by decide +kernel
theorem own_d3_21 : decode method_3_code 21 = .ok (.ifCond .eq 8, 3) := by decide +kernel
theorem own_d3_29 : decode method_3_code 29 = .ok (.iconst 1, 1) := by decide +kernel
theorem own_d3_30 : decode method_3_code 30 = .ok (.goto 4, 3) := by decide +kernel
theorem own_d3_34 : decode method_3_code 34 = .ok (.ireturn, 1) := by decide +kernel
set_option maxRecDepth 65536 in
set_option maxHeartbeats 40000000 in
theorem own_r3_13 (l : Launch) (Z : State) (a0 : Array Value) (hw : ∀ d ∈ tables_1, d.before a0 Z = true) (ws : List Jvm.Cond) (r0 : Addr) (r1 : Addr) (r2 : Addr) (r3 : Addr) (r4 : Addr) (r5 : Addr) (r6 : Addr) (r7 : Addr) (r8 : Addr) (r0_c : Addr) (cl_r0_c : Cell) (r1_c : Addr) (cl_r1_c : Cell) (r2_c : Addr) (cl_r2_c : Cell) (r3_c : Addr) (cl_r3_c : Cell) (r4_c : Addr) (cl_r4_c : Cell) (r5_c : Addr) (cl_r5_c : Cell) (r6_c : Addr) (cl_r6_c : Cell) (r7_c : Addr) (cl_r7_c : Cell) (r8_c : Addr) (cl_r8_c : Cell) (h0 : Heap) (n0 : Nat) (Z0 : n0 ≤ h0.size) (F : own_W Z h0 r0 r1 r2 r3 r4 r5 r6 r7 r8 r0_c cl_r0_c r1_c cl_r1_c r2_c cl_r2_c r3_c cl_r3_c r4_c cl_r4_c r5_c cl_r5_c r6_c cl_r6_c r7_c cl_r7_c r8_c cl_r8_c) (q0 : Int32) (h0' : q0 = (0 : Int32)) (h3 : ¬ (q0 = (3 : Int32))) :
    MetFree l (⟨"com/example/urbana/urbana/protocol/CommandTakesPinLaw", "expected", "(II)Z"⟩ : MethodName) (head1 (Jvm.Cond.code (⟨"com/example/urbana/urbana/protocol/CommandTakesPinLaw", "expected", "(II)Z"⟩ : MethodName) method_3_code 2 (some .boolean) :: ws) ({ frames := 0, cells := 0, slots := 0, locals := 0 } : Room)) (fun a U => a = #[(.int (1 : Int32)), (.int q0)] ∧ Z.Warmed39 U.vm ∧ U.heap = h0) (fun _ _ _ _ _ => True) (fun _ U o U' => ∃ v L, o = .returned v ∧ own_Q (.int (1 : Int32)) h0 n0 v U'.heap L ∧ FrameEnd U o U' L ({ frames := 0, cells := 0, slots := 0, locals := 0 } : Room).cells ({ frames := 0, cells := 0, slots := 0, locals := 0 } : Room).slots) := by
  obtain ⟨S_r0, E_r0, S_r1, E_r1, S_r2, E_r2, S_r3, E_r3, S_r4, E_r4, S_r5, E_r5, S_r6, E_r6, S_r7, E_r7, S_r8, E_r8, F_r0_counts, Ar_r0_c, F_r1_counts, Ar_r1_c, F_r2_counts, Ar_r2_c, F_r3_counts, Ar_r3_c, F_r4_counts, Ar_r4_c, F_r5_counts, Ar_r5_c, F_r6_counts, Ar_r6_c, F_r7_counts, Ar_r7_c, F_r8_counts, Ar_r8_c, Sz_r0_c, El_r0_c_0, Sz_r1_c, El_r1_c_0, El_r1_c_1, Sz_r2_c, El_r2_c_0, Sz_r3_c, Sz_r4_c, Sz_r5_c, Sz_r6_c, Sz_r7_c, Sz_r8_c⟩ := id F
  refine MetFree.of_bodySF (plainFor_of_name own_pn_CommandTakesPinLaw) hisR ?_
  intro p e s m args below meth c s₁ Bd hml0 hP hK
  obtain ⟨rfl, hZ, hh⟩ := hP
  have hx := Bd.exec
  have hby := Bd.bytes
  have hml : c.maxLocals = 2 := hml0
  have hown : s.vm.findClass "com/example/urbana/urbana/protocol/CommandTakesPinLaw" = some m.cls := findClass_of_methodNamed Bd.named
  have X0 : Stand p l e ({ frames := 0, cells := 0, slots := 0, locals := 0 } : Room) s m #[(.int (1 : Int32)), (.int q0)] below meth c s₁ [] 0 0 := Stand.of_body Bd
  have e0 : s₁.heap = h0 := by rw [← hh, Bd.state]; rfl
  have N0 := Fr.nil n0
  have pre0 : ∀ t, Steps p.tables e below (s₁.setTop (mkF m 0 #[.val (.int (1 : Int32)), .val (.int q0)] [])) t → Steps p.tables e below (s₁.setTop (entryFrame m #[(.int (1 : Int32)), (.int q0)] 2)) t := fun t k => castTop (own_ef3_II m (1 : Int32) q0) k
  obtain ⟨fs, hr, hrun, hended, hW, hsame⟩ := X0.leave (v := some (.int (1 : Int32))) (fun h => by rw [Bd.returns] at h; cases h)
  refine ⟨_, _, pre0 _ ?_, hrun, hended, _, _, rfl, ?_, ⟨_, rfl⟩, hW, hsame.mono (by decide) (by decide)⟩
  · show Steps p.tables e below (s₁.setTop (mkF m 0 #[.val (.int (1 : Int32)), .val (.int q0)] [])) _
    refine XS.iloadN X0.here hx rfl (hb hby own_d3_0) rfl ?_
    show Steps p.tables e below (s₁.setTop (mkF m 1 #[.val (.int (1 : Int32)), .val (.int q0)] [(.int (1 : Int32))])) _
    refine XS.ifYes X0.here hx rfl (pc0 := 1) (pc' := 15) rfl (hb hby own_d3_1) rfl ((if0 _ _).trans (feq (by decide : ¬ ((1 : Int32) = (0 : Int32)))).2) (by decide) (by decide) ?_
    show Steps p.tables e below (s₁.setTop (mkF m 15 #[.val (.int (1 : Int32)), .val (.int q0)] [])) _
    refine XS.iloadN X0.here hx rfl (hb hby own_d3_15) rfl ?_
    show Steps p.tables e below (s₁.setTop (mkF m 16 #[.val (.int (1 : Int32)), .val (.int q0)] [(.int (1 : Int32))])) _
    refine XS.iconst X0.here hx rfl (hb hby own_d3_16) ?_
    show Steps p.tables e below (s₁.setTop (mkF m 17 #[.val (.int (1 : Int32)), .val (.int q0)] [(.int (1 : Int32)), (.int (1 : Int32))])) _
    refine XS.icmpNo X0.here hx rfl (hb hby own_d3_17) rfl (teq (by decide : (1 : Int32) = (1 : Int32))).2 ?_
    show Steps p.tables e below (s₁.setTop (mkF m 20 #[.val (.int (1 : Int32)), .val (.int q0)] [])) _
    refine XS.iloadN X0.here hx rfl (hb hby own_d3_20) rfl ?_
    show Steps p.tables e below (s₁.setTop (mkF m 21 #[.val (.int (1 : Int32)), .val (.int q0)] [(.int q0)])) _
    refine XS.ifYes X0.here hx rfl (pc0 := 21) (pc' := 29) rfl (hb hby own_d3_21) rfl ((if0 _ _).trans (teq (h0' : q0 = (0 : Int32))).1) (by decide) (by decide) ?_
    show Steps p.tables e below (s₁.setTop (mkF m 29 #[.val (.int (1 : Int32)), .val (.int q0)] [])) _
    refine XS.iconst X0.here hx rfl (hb hby own_d3_29) ?_
    show Steps p.tables e below (s₁.setTop (mkF m 30 #[.val (.int (1 : Int32)), .val (.int q0)] [(.int (1 : Int32))])) _
    refine XS.goto X0.here hx rfl (pc0 := 30) (pc' := 34) rfl (hb hby own_d3_30) (by decide) (by decide) ?_
    show Steps p.tables e below (s₁.setTop (mkF m 34 #[.val (.int (1 : Int32)), .val (.int q0)] [(.int (1 : Int32))])) _
    exact retN X0 hx (t := .boolean) Bd.returns (by simp) (hb hby own_d3_34) hr
  · exact ⟨rfl, N0, e0⟩
set_option maxRecDepth 65536 in
set_option maxHeartbeats 40000000 in
theorem own_r0_k1m0c0 (l : Launch) (Z : State) (a0 : Array Value) (hw : ∀ d ∈ tables_1, d.before a0 Z = true) (ws : List Jvm.Cond) (r0 : Addr) (r1 : Addr) (r2 : Addr) (r3 : Addr) (r4 : Addr) (r5 : Addr) (r6 : Addr) (r7 : Addr) (r8 : Addr) (r0_c : Addr) (cl_r0_c : Cell) (r1_c : Addr) (cl_r1_c : Cell) (r2_c : Addr) (cl_r2_c : Cell) (r3_c : Addr) (cl_r3_c : Cell) (r4_c : Addr) (cl_r4_c : Cell) (r5_c : Addr) (cl_r5_c : Cell) (r6_c : Addr) (cl_r6_c : Cell) (r7_c : Addr) (cl_r7_c : Cell) (r8_c : Addr) (cl_r8_c : Cell) (h0 : Heap) (n0 : Nat) (Z0 : n0 ≤ h0.size) (F : own_W Z h0 r0 r1 r2 r3 r4 r5 r6 r7 r8 r0_c cl_r0_c r1_c cl_r1_c r2_c cl_r2_c r3_c cl_r3_c r4_c cl_r4_c r5_c cl_r5_c r6_c cl_r6_c r7_c cl_r7_c r8_c cl_r8_c) (i0 : Int32) (i1 : Int32) (i2 : Int32) (hk : ((i0 &&& (2147483647 : Int32)) % (9 : Int32)) = (1 : Int32)) (hm : (i1 &&& (1 : Int32)) = (0 : Int32)) (h0' : i2 = (0 : Int32)) (h3 : ¬ (i2 = (3 : Int32))) :
    MetFree l x (head1 (Jvm.Cond.code x code maxLocals ret :: ws) room_1) (fun a U => a = #[(.int i0), (.int i1), (.int i2)] ∧ Z.Warmed39 U.vm ∧ U.heap = h0) (fun _ _ _ _ _ => True) (fun _ U o U' => ∃ v L, o = .returned v ∧ own_Q (.int (1 : Int32)) h0 n0 v U'.heap L ∧ FrameEnd U o U' L room_1.cells room_1.slots) := by
  obtain ⟨S_r0, E_r0, S_r1, E_r1, S_r2, E_r2, S_r3, E_r3, S_r4, E_r4, S_r5, E_r5, S_r6, E_r6, S_r7, E_r7, S_r8, E_r8, F_r0_counts, Ar_r0_c, F_r1_counts, Ar_r1_c, F_r2_counts, Ar_r2_c, F_r3_counts, Ar_r3_c, F_r4_counts, Ar_r4_c, F_r5_counts, Ar_r5_c, F_r6_counts, Ar_r6_c, F_r7_counts, Ar_r7_c, F_r8_counts, Ar_r8_c, Sz_r0_c, El_r0_c_0, Sz_r1_c, El_r1_c_0, El_r1_c_1, Sz_r2_c, El_r2_c_0, Sz_r3_c, Sz_r4_c, Sz_r5_c, Sz_r6_c, Sz_r7_c, Sz_r8_c⟩ := id F
  refine MetFree.of_bodySF (plainFor_of_name own_pn_CommandTakesPinLaw) hisR ?_
  intro p e s m args below meth c s₁ Bd hml0 hP hK
  obtain ⟨rfl, hZ, hh⟩ := hP
  have hx := Bd.exec
  have hby := Bd.bytes
  have hml : c.maxLocals = 6 := hml0
  have hown : s.vm.findClass "com/example/urbana/urbana/protocol/CommandTakesPinLaw" = some m.cls := findClass_of_methodNamed Bd.named
  have X0 : Stand p l e room_1 s m #[(.int i0), (.int i1), (.int i2)] below meth c s₁ [] 0 0 := Stand.of_body Bd
  have e0 : s₁.heap = h0 := by rw [← hh, Bd.state]; rfl
  have N0 := Fr.nil n0
  have pre0 : ∀ t, Steps p.tables e below (s₁.setTop (mkF m 0 #[.val (.int i0), .val (.int i1), .val (.int i2), .unset, .unset, .unset] [])) t → Steps p.tables e below (s₁.setTop (entryFrame m #[(.int i0), (.int i1), (.int i2)] maxLocals)) t := fun t k => castTop (own_ef0_III m i0 i1 i2) k
  obtain ⟨_, _, ⟨T1, L1, k1, n1⟩, -, X1, ⟨Lc1, hQ1, l1, y1, z1⟩, st1⟩ := Jvm.LawKit.callS X0 hx (y := (⟨"com/example/urbana/urbana/protocol/CommandTakesPinLaw", "pick", "(I)Lcom/example/urbana/urbana/protocol/Command;"⟩ : MethodName)) hown (mvT hZ (hw _ (List.mem_of_getElem? (i := 1) rfl))) (mvT hZ (hw _ (List.mem_of_getElem? (i := 2) rfl))) (mvT hZ (hw _ (List.mem_of_getElem? (i := 3) rfl))) (mvT hZ (hw _ (List.mem_of_getElem? (i := 4) rfl))) (by decide) (backOf (W := 0) (own_r1_11 l Z a0 hw [] r0 r1 r2 r3 r4 r5 r6 r7 r8 r0_c cl_r0_c r1_c cl_r1_c r2_c cl_r2_c r3_c cl_r3_c r4_c cl_r4_c r5_c cl_r5_c r6_c cl_r6_c r7_c cl_r7_c r8_c cl_r8_c h0 n0 Z0 F ) hZ (hw _ (List.mem_of_getElem? (i := 4) rfl)) (hw _ (List.mem_of_getElem? (i := 3) rfl)) (by decide) (by decide)) (g := (mkF m 29 #[.val (.int i0), .val (.int i1), .val (.int i2), .val (.int (1 : Int32)), .val (.int i2), .unset] [(.int (1 : Int32))])) rfl (by rw [hml]; rfl) (argsL := [(.int (1 : Int32))]) (rest := []) (lenOf own_pd0 rfl) rfl (by show 2 * 0 + _ ≤ _; exact Nat.le_of_eq rfl) (hb hby at_29) (fun _ _ => ⟨rfl, e0, (by decide : 0 + 0 ≤ _), (by decide : 0 + 0 ≤ _)⟩)
  dsimp only [Pt.U, Pt.locs, Pt.cells, Pt.slots] at X1 l1 y1 z1 st1 hQ1
  subst l1 y1 z1
  obtain ⟨rfl, N1q, e1⟩ := hQ1
  have N1 := Fr.app N0 N1q
  obtain ⟨cq2, kq2, q2a, q2b, q2c⟩ := isOf hZ e1 E_r1
  obtain ⟨_, _, ⟨T2, L2, k2, n2⟩, -, X2, ⟨Lc2, hQ2, l2, y2, z2⟩, st2⟩ := X1.virtualBack hx (y := (⟨"com/example/urbana/urbana/protocol/Command", "takes", "(I)Z"⟩ : MethodName)) (z := (⟨"com/example/urbana/urbana/protocol/Command", "takes", "(I)Z"⟩ : MethodName)) hown (mvT hZ (hw _ (List.mem_of_getElem? (i := 8) rfl))) (mvT hZ (hw _ (List.mem_of_getElem? (i := 9) rfl))) (notFace_of_selects (args := #[]) (mvT hZ (hw _ (List.mem_of_getElem? (i := 11) rfl)))) (mvT hZ (hw _ (List.mem_of_getElem? (i := 11) rfl))) (mvT hZ (hw _ (List.mem_of_getElem? (i := 10) rfl))) (by decide) (backOf (W := 0) (own_r2_12 l Z a0 hw [] r0 r1 r2 r3 r4 r5 r6 r7 r8 r0_c cl_r0_c r1_c cl_r1_c r2_c cl_r2_c r3_c cl_r3_c r4_c cl_r4_c r5_c cl_r5_c r6_c cl_r6_c r7_c cl_r7_c r8_c cl_r8_c h0 n0 Z0 F i2 h0' h3) hZ (hw _ (List.mem_of_getElem? (i := 12) rfl)) (hw _ (List.mem_of_getElem? (i := 6) rfl)) (by decide) (by decide)) q2a q2c (g := (mkF m 38 #[.val (.int i0), .val (.int i1), .val (.int i2), .val (.int (1 : Int32)), .val (.int i2), .val (.ref r1)] [(.int i2), (.ref r1)])) rfl (by rw [hml]; rfl) (Steps.refl _) (argsL := [(.int i2)]) (rest := []) (lenOf own_pd1 rfl) rfl (by show 2 * 0 + _ ≤ _; exact Nat.le_of_eq rfl) (hb hby at_38) (fun _ _ => ⟨rfl, e1, (by decide : 0 + 0 ≤ _), (by decide : 0 + 0 ≤ _)⟩)
  dsimp only [Pt.U, Pt.locs, Pt.cells, Pt.slots] at X2 l2 y2 z2 st2 hQ2
  subst l2 y2 z2
  obtain ⟨rfl, N2q, e2⟩ := hQ2
  have N2 := Fr.app N1 N2q
  obtain ⟨_, _, ⟨T3, L3, k3, n3⟩, -, X3, ⟨Lc3, hQ3, l3, y3, z3⟩, st3⟩ := Jvm.LawKit.callS X2 hx (y := (⟨"com/example/urbana/urbana/protocol/CommandTakesPinLaw", "expected", "(II)Z"⟩ : MethodName)) hown (mvT hZ (hw _ (List.mem_of_getElem? (i := 15) rfl))) (mvT hZ (hw _ (List.mem_of_getElem? (i := 16) rfl))) (mvT hZ (hw _ (List.mem_of_getElem? (i := 3) rfl))) (mvT hZ (hw _ (List.mem_of_getElem? (i := 17) rfl))) (by decide) (backOf (W := 1) (own_r3_13 l Z a0 hw [] r0 r1 r2 r3 r4 r5 r6 r7 r8 r0_c cl_r0_c r1_c cl_r1_c r2_c cl_r2_c r3_c cl_r3_c r4_c cl_r4_c r5_c cl_r5_c r6_c cl_r6_c r7_c cl_r7_c r8_c cl_r8_c h0 n0 Z0 F i2 h0' h3) hZ (hw _ (List.mem_of_getElem? (i := 17) rfl)) (hw _ (List.mem_of_getElem? (i := 3) rfl)) (by decide) (by decide)) (g := (mkF m 44 #[.val (.int i0), .val (.int i1), .val (.int i2), .val (.int (1 : Int32)), .val (.int i2), .val (.ref r1)] [(.int i2), (.int (1 : Int32)), (.int (1 : Int32))])) rfl (by rw [hml]; rfl) (argsL := [(.int (1 : Int32)), (.int i2)]) (rest := [(.int (1 : Int32))]) (lenOf own_pd2 rfl) rfl (by show 2 * 0 + _ ≤ _; exact Nat.le_of_eq rfl) (hb hby at_44) (fun _ _ => ⟨rfl, e2, (by decide : 0 + 0 ≤ _), (by decide : 0 + 0 ≤ _)⟩)
  dsimp only [Pt.U, Pt.locs, Pt.cells, Pt.slots] at X3 l3 y3 z3 st3 hQ3
  subst l3 y3 z3
  obtain ⟨rfl, N3q, e3⟩ := hQ3
  have N3 := Fr.app N2 N3q
  obtain ⟨fs, hr, hrun, hended, hW, hsame⟩ := X3.leave (v := some (.int (1 : Int32))) (fun h => by rw [Bd.returns] at h; cases h)
  refine ⟨_, _, pre0 _ ?_, hrun, hended, _, _, rfl, ?_, ⟨_, rfl⟩, hW, hsame.mono (by decide) (by decide)⟩
  · show Steps p.tables e below (s₁.setTop (mkF m 0 #[.val (.int i0), .val (.int i1), .val (.int i2), .unset, .unset, .unset] [])) _
    refine XS.iloadN X0.here hx rfl (hb hby at_0) rfl ?_
    show Steps p.tables e below (s₁.setTop (mkF m 1 #[.val (.int i0), .val (.int i1), .val (.int i2), .unset, .unset, .unset] [(.int i0)])) _
    refine X0.ldcInt hx hown (mvT hZ (hw _ (List.mem_of_getElem? (i := 0) rfl))) (g := (mkF m 1 #[.val (.int i0), .val (.int i1), .val (.int i2), .unset, .unset, .unset] [(.int i0)])) rfl (hb hby at_1) _ ?_
    show Steps p.tables e below (s₁.setTop (mkF m 3 #[.val (.int i0), .val (.int i1), .val (.int i2), .unset, .unset, .unset] [(.int (2147483647 : Int32)), (.int i0)])) _
    refine XS.iand X0.here hx rfl (hb hby at_3) rfl ?_
    show Steps p.tables e below (s₁.setTop (mkF m 4 #[.val (.int i0), .val (.int i1), .val (.int i2), .unset, .unset, .unset] [(.int (i0 &&& (2147483647 : Int32)))])) _
    refine XS.bipush X0.here hx rfl (hb hby at_4) ?_
    show Steps p.tables e below (s₁.setTop (mkF m 6 #[.val (.int i0), .val (.int i1), .val (.int i2), .unset, .unset, .unset] [(.int (9 : Int32)), (.int (i0 &&& (2147483647 : Int32)))])) _
    refine iremM (g := (mkF m 6 #[.val (.int i0), .val (.int i1), .val (.int i2), .unset, .unset, .unset] [(.int (9 : Int32)), (.int (i0 &&& (2147483647 : Int32)))])) X0 hx rfl (hb hby at_6) rfl (by decide) ?_
    show Steps p.tables e below (s₁.setTop (mkF m 7 #[.val (.int i0), .val (.int i1), .val (.int i2), .unset, .unset, .unset] [(.int ((i0 &&& (2147483647 : Int32)) % (9 : Int32)))])) _
    rw [hk]
    show Steps p.tables e below (s₁.setTop (mkF m 7 #[.val (.int i0), .val (.int i1), .val (.int i2), .unset, .unset, .unset] [(.int (1 : Int32))])) _
    refine XS.istoreN X0.here hx rfl (hb hby at_7) rfl (l' := #[.val (.int i0), .val (.int i1), .val (.int i2), .val (.int (1 : Int32)), .unset, .unset]) rfl ?_
    show Steps p.tables e below (s₁.setTop (mkF m 8 #[.val (.int i0), .val (.int i1), .val (.int i2), .val (.int (1 : Int32)), .unset, .unset] [])) _
    refine XS.iloadN X0.here hx rfl (hb hby at_8) rfl ?_
    show Steps p.tables e below (s₁.setTop (mkF m 9 #[.val (.int i0), .val (.int i1), .val (.int i2), .val (.int (1 : Int32)), .unset, .unset] [(.int i1)])) _
    refine XS.iconst X0.here hx rfl (hb hby at_9) ?_
    show Steps p.tables e below (s₁.setTop (mkF m 10 #[.val (.int i0), .val (.int i1), .val (.int i2), .val (.int (1 : Int32)), .unset, .unset] [(.int (1 : Int32)), (.int i1)])) _
    refine XS.iand X0.here hx rfl (hb hby at_10) rfl ?_
    show Steps p.tables e below (s₁.setTop (mkF m 11 #[.val (.int i0), .val (.int i1), .val (.int i2), .val (.int (1 : Int32)), .unset, .unset] [(.int (i1 &&& (1 : Int32)))])) _
    rw [hm]
    show Steps p.tables e below (s₁.setTop (mkF m 11 #[.val (.int i0), .val (.int i1), .val (.int i2), .val (.int (1 : Int32)), .unset, .unset] [(.int (0 : Int32))])) _
    refine XS.ifYes X0.here hx rfl (pc0 := 11) (pc' := 25) rfl (hb hby at_11) rfl ((if0 _ _).trans (teq (by decide : (0 : Int32) = (0 : Int32))).1) (by decide) (by decide) ?_
    show Steps p.tables e below (s₁.setTop (mkF m 25 #[.val (.int i0), .val (.int i1), .val (.int i2), .val (.int (1 : Int32)), .unset, .unset] [])) _
    refine XS.iloadN X0.here hx rfl (hb hby at_25) rfl ?_
    show Steps p.tables e below (s₁.setTop (mkF m 26 #[.val (.int i0), .val (.int i1), .val (.int i2), .val (.int (1 : Int32)), .unset, .unset] [(.int i2)])) _
    refine XS.istore X0.here hx rfl (hb hby at_26) rfl (l' := #[.val (.int i0), .val (.int i1), .val (.int i2), .val (.int (1 : Int32)), .val (.int i2), .unset]) rfl ?_
    show Steps p.tables e below (s₁.setTop (mkF m 28 #[.val (.int i0), .val (.int i1), .val (.int i2), .val (.int (1 : Int32)), .val (.int i2), .unset] [])) _
    refine XS.iloadN X0.here hx rfl (hb hby at_28) rfl ?_
    show Steps p.tables e below (s₁.setTop (mkF m 29 #[.val (.int i0), .val (.int i1), .val (.int i2), .val (.int (1 : Int32)), .val (.int i2), .unset] [(.int (1 : Int32))])) _
    refine st1 _ ?_
    show Steps p.tables e below (T1.setTop (mkF m 32 #[.val (.int i0), .val (.int i1), .val (.int i2), .val (.int (1 : Int32)), .val (.int i2), .unset] [(.ref r1)])) _
    refine XS.astore X1.here hx rfl (hb hby at_32) rfl rfl (l' := #[.val (.int i0), .val (.int i1), .val (.int i2), .val (.int (1 : Int32)), .val (.int i2), .val (.ref r1)]) rfl ?_
    show Steps p.tables e below (T1.setTop (mkF m 34 #[.val (.int i0), .val (.int i1), .val (.int i2), .val (.int (1 : Int32)), .val (.int i2), .val (.ref r1)] [])) _
    refine XS.aload X1.here hx rfl (hb hby at_34) rfl rfl ?_
    show Steps p.tables e below (T1.setTop (mkF m 36 #[.val (.int i0), .val (.int i1), .val (.int i2), .val (.int (1 : Int32)), .val (.int i2), .val (.ref r1)] [(.ref r1)])) _
    refine XS.iload X1.here hx rfl (hb hby at_36) rfl ?_
    show Steps p.tables e below (T1.setTop (mkF m 38 #[.val (.int i0), .val (.int i1), .val (.int i2), .val (.int (1 : Int32)), .val (.int i2), .val (.ref r1)] [(.int i2), (.ref r1)])) _
    refine st2.trans ?_
    show Steps p.tables e below (T2.setTop (mkF m 41 #[.val (.int i0), .val (.int i1), .val (.int i2), .val (.int (1 : Int32)), .val (.int i2), .val (.ref r1)] [(.int (1 : Int32))])) _
    refine XS.iloadN X2.here hx rfl (hb hby at_41) rfl ?_
    show Steps p.tables e below (T2.setTop (mkF m 42 #[.val (.int i0), .val (.int i1), .val (.int i2), .val (.int (1 : Int32)), .val (.int i2), .val (.ref r1)] [(.int (1 : Int32)), (.int (1 : Int32))])) _
    refine XS.iload X2.here hx rfl (hb hby at_42) rfl ?_
    show Steps p.tables e below (T2.setTop (mkF m 44 #[.val (.int i0), .val (.int i1), .val (.int i2), .val (.int (1 : Int32)), .val (.int i2), .val (.ref r1)] [(.int i2), (.int (1 : Int32)), (.int (1 : Int32))])) _
    refine st3 _ ?_
    show Steps p.tables e below (T3.setTop (mkF m 47 #[.val (.int i0), .val (.int i1), .val (.int i2), .val (.int (1 : Int32)), .val (.int i2), .val (.ref r1)] [(.int (1 : Int32)), (.int (1 : Int32))])) _
    refine XS.icmpNo X3.here hx rfl (hb hby at_47) rfl (teq (by decide : (1 : Int32) = (1 : Int32))).2 ?_
    show Steps p.tables e below (T3.setTop (mkF m 50 #[.val (.int i0), .val (.int i1), .val (.int i2), .val (.int (1 : Int32)), .val (.int i2), .val (.ref r1)] [])) _
    refine XS.iconst X3.here hx rfl (hb hby at_50) ?_
    show Steps p.tables e below (T3.setTop (mkF m 51 #[.val (.int i0), .val (.int i1), .val (.int i2), .val (.int (1 : Int32)), .val (.int i2), .val (.ref r1)] [(.int (1 : Int32))])) _
    refine XS.goto X3.here hx rfl (pc0 := 51) (pc' := 55) rfl (hb hby at_51) (by decide) (by decide) ?_
    show Steps p.tables e below (T3.setTop (mkF m 55 #[.val (.int i0), .val (.int i1), .val (.int i2), .val (.int (1 : Int32)), .val (.int i2), .val (.ref r1)] [(.int (1 : Int32))])) _
    exact retN X3 hx (t := .boolean) Bd.returns (by simp) (hb hby at_55) hr
  · exact ⟨rfl, N3, e3⟩
set_option maxRecDepth 65536 in
set_option maxHeartbeats 40000000 in
theorem own_r2_15 (l : Launch) (Z : State) (a0 : Array Value) (hw : ∀ d ∈ tables_1, d.before a0 Z = true) (ws : List Jvm.Cond) (r0 : Addr) (r1 : Addr) (r2 : Addr) (r3 : Addr) (r4 : Addr) (r5 : Addr) (r6 : Addr) (r7 : Addr) (r8 : Addr) (r0_c : Addr) (cl_r0_c : Cell) (r1_c : Addr) (cl_r1_c : Cell) (r2_c : Addr) (cl_r2_c : Cell) (r3_c : Addr) (cl_r3_c : Cell) (r4_c : Addr) (cl_r4_c : Cell) (r5_c : Addr) (cl_r5_c : Cell) (r6_c : Addr) (cl_r6_c : Cell) (r7_c : Addr) (cl_r7_c : Cell) (r8_c : Addr) (cl_r8_c : Cell) (h0 : Heap) (n0 : Nat) (Z0 : n0 ≤ h0.size) (F : own_W Z h0 r0 r1 r2 r3 r4 r5 r6 r7 r8 r0_c cl_r0_c r1_c cl_r1_c r2_c cl_r2_c r3_c cl_r3_c r4_c cl_r4_c r5_c cl_r5_c r6_c cl_r6_c r7_c cl_r7_c r8_c cl_r8_c) (q0 : Int32) (h0' : ¬ (q0 = (0 : Int32))) (h3 : q0 = (3 : Int32)) :
    MetFree l (⟨"com/example/urbana/urbana/protocol/Command", "takes", "(I)Z"⟩ : MethodName) (head1 (Jvm.Cond.code (⟨"com/example/urbana/urbana/protocol/Command", "takes", "(I)Z"⟩ : MethodName) prog_2_method_8_code 7 (some .boolean) :: ws) ({ frames := 0, cells := 0, slots := 0, locals := 0 } : Room)) (fun a U => a = #[(.ref r1), (.int q0)] ∧ Z.Warmed39 U.vm ∧ U.heap = h0) (fun _ _ _ _ _ => True) (fun _ U o U' => ∃ v L, o = .returned v ∧ own_Q (.int (1 : Int32)) h0 n0 v U'.heap L ∧ FrameEnd U o U' L ({ frames := 0, cells := 0, slots := 0, locals := 0 } : Room).cells ({ frames := 0, cells := 0, slots := 0, locals := 0 } : Room).slots) := by
  obtain ⟨S_r0, E_r0, S_r1, E_r1, S_r2, E_r2, S_r3, E_r3, S_r4, E_r4, S_r5, E_r5, S_r6, E_r6, S_r7, E_r7, S_r8, E_r8, F_r0_counts, Ar_r0_c, F_r1_counts, Ar_r1_c, F_r2_counts, Ar_r2_c, F_r3_counts, Ar_r3_c, F_r4_counts, Ar_r4_c, F_r5_counts, Ar_r5_c, F_r6_counts, Ar_r6_c, F_r7_counts, Ar_r7_c, F_r8_counts, Ar_r8_c, Sz_r0_c, El_r0_c_0, Sz_r1_c, El_r1_c_0, El_r1_c_1, Sz_r2_c, El_r2_c_0, Sz_r3_c, Sz_r4_c, Sz_r5_c, Sz_r6_c, Sz_r7_c, Sz_r8_c⟩ := id F
  refine MetFree.of_bodySF (plainFor_of_name own_pn_Command) hisR ?_
  intro p e s m args below meth c s₁ Bd hml0 hP hK
  obtain ⟨rfl, hZ, hh⟩ := hP
  have hx := Bd.exec
  have hby := Bd.bytes
  have hml : c.maxLocals = 7 := hml0
  have hown : s.vm.findClass "com/example/urbana/urbana/protocol/Command" = some m.cls := findClass_of_methodNamed Bd.named
  have X0 : Stand p l e ({ frames := 0, cells := 0, slots := 0, locals := 0 } : Room) s m #[(.ref r1), (.int q0)] below meth c s₁ [] 0 0 := Stand.of_body Bd
  have e0 : s₁.heap = h0 := by rw [← hh, Bd.state]; rfl
  have N0 := Fr.nil n0
  have pre0 : ∀ t, Steps p.tables e below (s₁.setTop (mkF m 0 #[.val (.ref r1), .val (.int q0), .unset, .unset, .unset, .unset, .unset] [])) t → Steps p.tables e below (s₁.setTop (entryFrame m #[(.ref r1), (.int q0)] 7)) t := fun t k => castTop (own_ef2_RI m r1 q0) k
  obtain ⟨T1, X1, e1, st1⟩ := getF X0 hx hZ hown (host := "") (Or.inl (hw _ (List.mem_of_getElem? (i := 13) rfl))) Via.refl e0 F_r1_counts (g := (mkF m 3 #[.val (.ref r1), .val (.int q0), .val (.int (0 : Int32)), .unset, .unset, .unset, .unset] [(.ref r1)])) rfl rfl (hb hby own_d2_3)
  obtain ⟨fs, hr, hrun, hended, hW, hsame⟩ := X1.leave (v := some (.int (1 : Int32))) (fun h => by rw [Bd.returns] at h; cases h)
  refine ⟨_, _, pre0 _ ?_, hrun, hended, _, _, rfl, ?_, ⟨_, rfl⟩, hW, hsame.mono (by decide) (by decide)⟩
  · show Steps p.tables e below (s₁.setTop (mkF m 0 #[.val (.ref r1), .val (.int q0), .unset, .unset, .unset, .unset, .unset] [])) _
    refine XS.iconst X0.here hx rfl (hb hby own_d2_0) ?_
    show Steps p.tables e below (s₁.setTop (mkF m 1 #[.val (.ref r1), .val (.int q0), .unset, .unset, .unset, .unset, .unset] [(.int (0 : Int32))])) _
    refine XS.istoreN X0.here hx rfl (hb hby own_d2_1) rfl (l' := #[.val (.ref r1), .val (.int q0), .val (.int (0 : Int32)), .unset, .unset, .unset, .unset]) rfl ?_
    show Steps p.tables e below (s₁.setTop (mkF m 2 #[.val (.ref r1), .val (.int q0), .val (.int (0 : Int32)), .unset, .unset, .unset, .unset] [])) _
    refine XS.aloadN X0.here hx rfl (hb hby own_d2_2) rfl rfl ?_
    show Steps p.tables e below (s₁.setTop (mkF m 3 #[.val (.ref r1), .val (.int q0), .val (.int (0 : Int32)), .unset, .unset, .unset, .unset] [(.ref r1)])) _
    refine st1 _ ?_
    show Steps p.tables e below (T1.setTop (mkF m 6 #[.val (.ref r1), .val (.int q0), .val (.int (0 : Int32)), .unset, .unset, .unset, .unset] [(.ref r1_c)])) _
    refine XS.astoreN X1.here hx rfl (hb hby own_d2_6) rfl rfl (l' := #[.val (.ref r1), .val (.int q0), .val (.int (0 : Int32)), .val (.ref r1_c), .unset, .unset, .unset]) rfl ?_
    show Steps p.tables e below (T1.setTop (mkF m 7 #[.val (.ref r1), .val (.int q0), .val (.int (0 : Int32)), .val (.ref r1_c), .unset, .unset, .unset] [])) _
    refine XS.aloadN X1.here hx rfl (hb hby own_d2_7) rfl rfl ?_
    show Steps p.tables e below (T1.setTop (mkF m 8 #[.val (.ref r1), .val (.int q0), .val (.int (0 : Int32)), .val (.ref r1_c), .unset, .unset, .unset] [(.ref r1_c)])) _
    refine X1.arraylength hx (by rw [e1]; exact Ar_r1_c.1) (State.isArrayOf_alike hZ.alike Ar_r1_c.2.1) (g := (mkF m 8 #[.val (.ref r1), .val (.int q0), .val (.int (0 : Int32)), .val (.ref r1_c), .unset, .unset, .unset] [(.ref r1_c)])) rfl rfl (hb hby own_d2_8) _ ?_
    rw [len_of Sz_r1_c (by decide)]
    show Steps p.tables e below (T1.setTop (mkF m 9 #[.val (.ref r1), .val (.int q0), .val (.int (0 : Int32)), .val (.ref r1_c), .unset, .unset, .unset] [(.int (2 : Int32))])) _
    refine XS.istore X1.here hx rfl (hb hby own_d2_9) rfl (l' := #[.val (.ref r1), .val (.int q0), .val (.int (0 : Int32)), .val (.ref r1_c), .val (.int (2 : Int32)), .unset, .unset]) rfl ?_
    show Steps p.tables e below (T1.setTop (mkF m 11 #[.val (.ref r1), .val (.int q0), .val (.int (0 : Int32)), .val (.ref r1_c), .val (.int (2 : Int32)), .unset, .unset] [])) _
    refine XS.iconst X1.here hx rfl (hb hby own_d2_11) ?_
    show Steps p.tables e below (T1.setTop (mkF m 12 #[.val (.ref r1), .val (.int q0), .val (.int (0 : Int32)), .val (.ref r1_c), .val (.int (2 : Int32)), .unset, .unset] [(.int (0 : Int32))])) _
    refine XS.istore X1.here hx rfl (hb hby own_d2_12) rfl (l' := #[.val (.ref r1), .val (.int q0), .val (.int (0 : Int32)), .val (.ref r1_c), .val (.int (2 : Int32)), .val (.int (0 : Int32)), .unset]) rfl ?_
    show Steps p.tables e below (T1.setTop (mkF m 14 #[.val (.ref r1), .val (.int q0), .val (.int (0 : Int32)), .val (.ref r1_c), .val (.int (2 : Int32)), .val (.int (0 : Int32)), .unset] [])) _
    refine XS.iload X1.here hx rfl (hb hby own_d2_14) rfl ?_
    show Steps p.tables e below (T1.setTop (mkF m 16 #[.val (.ref r1), .val (.int q0), .val (.int (0 : Int32)), .val (.ref r1_c), .val (.int (2 : Int32)), .val (.int (0 : Int32)), .unset] [(.int (0 : Int32))])) _
    refine XS.iload X1.here hx rfl (hb hby own_d2_16) rfl ?_
    show Steps p.tables e below (T1.setTop (mkF m 18 #[.val (.ref r1), .val (.int q0), .val (.int (0 : Int32)), .val (.ref r1_c), .val (.int (2 : Int32)), .val (.int (0 : Int32)), .unset] [(.int (2 : Int32)), (.int (0 : Int32))])) _
    refine XS.icmpNo X1.here hx rfl (hb hby own_d2_18) rfl (tlt (by decide : (0 : Int32) < (2 : Int32))).2.1 ?_
    show Steps p.tables e below (T1.setTop (mkF m 21 #[.val (.ref r1), .val (.int q0), .val (.int (0 : Int32)), .val (.ref r1_c), .val (.int (2 : Int32)), .val (.int (0 : Int32)), .unset] [])) _
    refine XS.aloadN X1.here hx rfl (hb hby own_d2_21) rfl rfl ?_
    show Steps p.tables e below (T1.setTop (mkF m 22 #[.val (.ref r1), .val (.int q0), .val (.int (0 : Int32)), .val (.ref r1_c), .val (.int (2 : Int32)), .val (.int (0 : Int32)), .unset] [(.ref r1_c)])) _
    refine XS.iload X1.here hx rfl (hb hby own_d2_22) rfl ?_
    show Steps p.tables e below (T1.setTop (mkF m 24 #[.val (.ref r1), .val (.int q0), .val (.int (0 : Int32)), .val (.ref r1_c), .val (.int (2 : Int32)), .val (.int (0 : Int32)), .unset] [(.int (0 : Int32)), (.ref r1_c)])) _
    refine X1.iaload hx (j := (0 : Int32)) (v := (.int (0 : Int32))) (by rw [e1]; exact Ar_r1_c.1) (State.isArrayOf_alike hZ.alike Ar_r1_c.2.1) Ar_r1_c.2.2 (inb_of Sz_r1_c ⟨by decide, by decide⟩) El_r1_c_0 (g := (mkF m 24 #[.val (.ref r1), .val (.int q0), .val (.int (0 : Int32)), .val (.ref r1_c), .val (.int (2 : Int32)), .val (.int (0 : Int32)), .unset] [(.int (0 : Int32)), (.ref r1_c)])) rfl rfl (hb hby own_d2_24) _ ?_
    show Steps p.tables e below (T1.setTop (mkF m 25 #[.val (.ref r1), .val (.int q0), .val (.int (0 : Int32)), .val (.ref r1_c), .val (.int (2 : Int32)), .val (.int (0 : Int32)), .unset] [(.int (0 : Int32))])) _
    refine XS.istore X1.here hx rfl (hb hby own_d2_25) rfl (l' := #[.val (.ref r1), .val (.int q0), .val (.int (0 : Int32)), .val (.ref r1_c), .val (.int (2 : Int32)), .val (.int (0 : Int32)), .val (.int (0 : Int32))]) rfl ?_
    show Steps p.tables e below (T1.setTop (mkF m 27 #[.val (.ref r1), .val (.int q0), .val (.int (0 : Int32)), .val (.ref r1_c), .val (.int (2 : Int32)), .val (.int (0 : Int32)), .val (.int (0 : Int32))] [])) _
    refine XS.iloadN X1.here hx rfl (hb hby own_d2_27) rfl ?_
    show Steps p.tables e below (T1.setTop (mkF m 28 #[.val (.ref r1), .val (.int q0), .val (.int (0 : Int32)), .val (.ref r1_c), .val (.int (2 : Int32)), .val (.int (0 : Int32)), .val (.int (0 : Int32))] [(.int (0 : Int32))])) _
    refine XS.iload X1.here hx rfl (hb hby own_d2_28) rfl ?_
    show Steps p.tables e below (T1.setTop (mkF m 30 #[.val (.ref r1), .val (.int q0), .val (.int (0 : Int32)), .val (.ref r1_c), .val (.int (2 : Int32)), .val (.int (0 : Int32)), .val (.int (0 : Int32))] [(.int (0 : Int32)), (.int (0 : Int32))])) _
    refine XS.iloadN X1.here hx rfl (hb hby own_d2_30) rfl ?_
    show Steps p.tables e below (T1.setTop (mkF m 31 #[.val (.ref r1), .val (.int q0), .val (.int (0 : Int32)), .val (.ref r1_c), .val (.int (2 : Int32)), .val (.int (0 : Int32)), .val (.int (0 : Int32))] [(.int q0), (.int (0 : Int32)), (.int (0 : Int32))])) _
    refine XS.icmpYes X1.here hx rfl (pc0 := 31) (pc' := 38) rfl (hb hby own_d2_31) rfl (feq ((Ne.symm h0') : ¬ ((0 : Int32) = q0))).2 (by decide) (by decide) ?_
    show Steps p.tables e below (T1.setTop (mkF m 38 #[.val (.ref r1), .val (.int q0), .val (.int (0 : Int32)), .val (.ref r1_c), .val (.int (2 : Int32)), .val (.int (0 : Int32)), .val (.int (0 : Int32))] [(.int (0 : Int32))])) _
    refine XS.iconst X1.here hx rfl (hb hby own_d2_38) ?_
    show Steps p.tables e below (T1.setTop (mkF m 39 #[.val (.ref r1), .val (.int q0), .val (.int (0 : Int32)), .val (.ref r1_c), .val (.int (2 : Int32)), .val (.int (0 : Int32)), .val (.int (0 : Int32))] [(.int (0 : Int32)), (.int (0 : Int32))])) _
    refine XS.ior X1.here hx rfl (hb hby own_d2_39) rfl ?_
    show Steps p.tables e below (T1.setTop (mkF m 40 #[.val (.ref r1), .val (.int q0), .val (.int (0 : Int32)), .val (.ref r1_c), .val (.int (2 : Int32)), .val (.int (0 : Int32)), .val (.int (0 : Int32))] [(.int ((0 : Int32) ||| (0 : Int32)))])) _
    rw [show ((0 : Int32) ||| (0 : Int32)) = (0 : Int32) from by decide]
    show Steps p.tables e below (T1.setTop (mkF m 40 #[.val (.ref r1), .val (.int q0), .val (.int (0 : Int32)), .val (.ref r1_c), .val (.int (2 : Int32)), .val (.int (0 : Int32)), .val (.int (0 : Int32))] [(.int (0 : Int32))])) _
    refine XS.istoreN X1.here hx rfl (hb hby own_d2_40) rfl (l' := #[.val (.ref r1), .val (.int q0), .val (.int (0 : Int32)), .val (.ref r1_c), .val (.int (2 : Int32)), .val (.int (0 : Int32)), .val (.int (0 : Int32))]) rfl ?_
    show Steps p.tables e below (T1.setTop (mkF m 41 #[.val (.ref r1), .val (.int q0), .val (.int (0 : Int32)), .val (.ref r1_c), .val (.int (2 : Int32)), .val (.int (0 : Int32)), .val (.int (0 : Int32))] [])) _
    refine XS.iinc X1.here hx rfl (hb hby own_d2_41) rfl (l' := #[.val (.ref r1), .val (.int q0), .val (.int (0 : Int32)), .val (.ref r1_c), .val (.int (2 : Int32)), .val (.int ((0 : Int32) + (1 : Int32))), .val (.int (0 : Int32))]) rfl ?_
    show Steps p.tables e below (T1.setTop (mkF m 44 #[.val (.ref r1), .val (.int q0), .val (.int (0 : Int32)), .val (.ref r1_c), .val (.int (2 : Int32)), .val (.int ((0 : Int32) + (1 : Int32))), .val (.int (0 : Int32))] [])) _
    rw [show ((0 : Int32) + (1 : Int32)) = (1 : Int32) from by decide]
    show Steps p.tables e below (T1.setTop (mkF m 44 #[.val (.ref r1), .val (.int q0), .val (.int (0 : Int32)), .val (.ref r1_c), .val (.int (2 : Int32)), .val (.int (1 : Int32)), .val (.int (0 : Int32))] [])) _
    refine XS.goto X1.here hx rfl (pc0 := 44) (pc' := 14) rfl (hb hby own_d2_44) (by decide) (by decide) ?_
    show Steps p.tables e below (T1.setTop (mkF m 14 #[.val (.ref r1), .val (.int q0), .val (.int (0 : Int32)), .val (.ref r1_c), .val (.int (2 : Int32)), .val (.int (1 : Int32)), .val (.int (0 : Int32))] [])) _
    refine XS.iload X1.here hx rfl (hb hby own_d2_14) rfl ?_
    show Steps p.tables e below (T1.setTop (mkF m 16 #[.val (.ref r1), .val (.int q0), .val (.int (0 : Int32)), .val (.ref r1_c), .val (.int (2 : Int32)), .val (.int (1 : Int32)), .val (.int (0 : Int32))] [(.int (1 : Int32))])) _
    refine XS.iload X1.here hx rfl (hb hby own_d2_16) rfl ?_
    show Steps p.tables e below (T1.setTop (mkF m 18 #[.val (.ref r1), .val (.int q0), .val (.int (0 : Int32)), .val (.ref r1_c), .val (.int (2 : Int32)), .val (.int (1 : Int32)), .val (.int (0 : Int32))] [(.int (2 : Int32)), (.int (1 : Int32))])) _
    refine XS.icmpNo X1.here hx rfl (hb hby own_d2_18) rfl (tlt (by decide : (1 : Int32) < (2 : Int32))).2.1 ?_
    show Steps p.tables e below (T1.setTop (mkF m 21 #[.val (.ref r1), .val (.int q0), .val (.int (0 : Int32)), .val (.ref r1_c), .val (.int (2 : Int32)), .val (.int (1 : Int32)), .val (.int (0 : Int32))] [])) _
    refine XS.aloadN X1.here hx rfl (hb hby own_d2_21) rfl rfl ?_
    show Steps p.tables e below (T1.setTop (mkF m 22 #[.val (.ref r1), .val (.int q0), .val (.int (0 : Int32)), .val (.ref r1_c), .val (.int (2 : Int32)), .val (.int (1 : Int32)), .val (.int (0 : Int32))] [(.ref r1_c)])) _
    refine XS.iload X1.here hx rfl (hb hby own_d2_22) rfl ?_
    show Steps p.tables e below (T1.setTop (mkF m 24 #[.val (.ref r1), .val (.int q0), .val (.int (0 : Int32)), .val (.ref r1_c), .val (.int (2 : Int32)), .val (.int (1 : Int32)), .val (.int (0 : Int32))] [(.int (1 : Int32)), (.ref r1_c)])) _
    refine X1.iaload hx (j := (1 : Int32)) (v := (.int (3 : Int32))) (by rw [e1]; exact Ar_r1_c.1) (State.isArrayOf_alike hZ.alike Ar_r1_c.2.1) Ar_r1_c.2.2 (inb_of Sz_r1_c ⟨by decide, by decide⟩) El_r1_c_1 (g := (mkF m 24 #[.val (.ref r1), .val (.int q0), .val (.int (0 : Int32)), .val (.ref r1_c), .val (.int (2 : Int32)), .val (.int (1 : Int32)), .val (.int (0 : Int32))] [(.int (1 : Int32)), (.ref r1_c)])) rfl rfl (hb hby own_d2_24) _ ?_
    show Steps p.tables e below (T1.setTop (mkF m 25 #[.val (.ref r1), .val (.int q0), .val (.int (0 : Int32)), .val (.ref r1_c), .val (.int (2 : Int32)), .val (.int (1 : Int32)), .val (.int (0 : Int32))] [(.int (3 : Int32))])) _
    refine XS.istore X1.here hx rfl (hb hby own_d2_25) rfl (l' := #[.val (.ref r1), .val (.int q0), .val (.int (0 : Int32)), .val (.ref r1_c), .val (.int (2 : Int32)), .val (.int (1 : Int32)), .val (.int (3 : Int32))]) rfl ?_
    show Steps p.tables e below (T1.setTop (mkF m 27 #[.val (.ref r1), .val (.int q0), .val (.int (0 : Int32)), .val (.ref r1_c), .val (.int (2 : Int32)), .val (.int (1 : Int32)), .val (.int (3 : Int32))] [])) _
    refine XS.iloadN X1.here hx rfl (hb hby own_d2_27) rfl ?_
    show Steps p.tables e below (T1.setTop (mkF m 28 #[.val (.ref r1), .val (.int q0), .val (.int (0 : Int32)), .val (.ref r1_c), .val (.int (2 : Int32)), .val (.int (1 : Int32)), .val (.int (3 : Int32))] [(.int (0 : Int32))])) _
    refine XS.iload X1.here hx rfl (hb hby own_d2_28) rfl ?_
    show Steps p.tables e below (T1.setTop (mkF m 30 #[.val (.ref r1), .val (.int q0), .val (.int (0 : Int32)), .val (.ref r1_c), .val (.int (2 : Int32)), .val (.int (1 : Int32)), .val (.int (3 : Int32))] [(.int (3 : Int32)), (.int (0 : Int32))])) _
    refine XS.iloadN X1.here hx rfl (hb hby own_d2_30) rfl ?_
    show Steps p.tables e below (T1.setTop (mkF m 31 #[.val (.ref r1), .val (.int q0), .val (.int (0 : Int32)), .val (.ref r1_c), .val (.int (2 : Int32)), .val (.int (1 : Int32)), .val (.int (3 : Int32))] [(.int q0), (.int (3 : Int32)), (.int (0 : Int32))])) _
    refine XS.icmpNo X1.here hx rfl (hb hby own_d2_31) rfl (teq (h3.symm : (3 : Int32) = q0)).2 ?_
    show Steps p.tables e below (T1.setTop (mkF m 34 #[.val (.ref r1), .val (.int q0), .val (.int (0 : Int32)), .val (.ref r1_c), .val (.int (2 : Int32)), .val (.int (1 : Int32)), .val (.int (3 : Int32))] [(.int (0 : Int32))])) _
    refine XS.iconst X1.here hx rfl (hb hby own_d2_34) ?_
    show Steps p.tables e below (T1.setTop (mkF m 35 #[.val (.ref r1), .val (.int q0), .val (.int (0 : Int32)), .val (.ref r1_c), .val (.int (2 : Int32)), .val (.int (1 : Int32)), .val (.int (3 : Int32))] [(.int (1 : Int32)), (.int (0 : Int32))])) _
    refine XS.goto X1.here hx rfl (pc0 := 35) (pc' := 39) rfl (hb hby own_d2_35) (by decide) (by decide) ?_
    show Steps p.tables e below (T1.setTop (mkF m 39 #[.val (.ref r1), .val (.int q0), .val (.int (0 : Int32)), .val (.ref r1_c), .val (.int (2 : Int32)), .val (.int (1 : Int32)), .val (.int (3 : Int32))] [(.int (1 : Int32)), (.int (0 : Int32))])) _
    refine XS.ior X1.here hx rfl (hb hby own_d2_39) rfl ?_
    show Steps p.tables e below (T1.setTop (mkF m 40 #[.val (.ref r1), .val (.int q0), .val (.int (0 : Int32)), .val (.ref r1_c), .val (.int (2 : Int32)), .val (.int (1 : Int32)), .val (.int (3 : Int32))] [(.int ((0 : Int32) ||| (1 : Int32)))])) _
    rw [show ((0 : Int32) ||| (1 : Int32)) = (1 : Int32) from by decide]
    show Steps p.tables e below (T1.setTop (mkF m 40 #[.val (.ref r1), .val (.int q0), .val (.int (0 : Int32)), .val (.ref r1_c), .val (.int (2 : Int32)), .val (.int (1 : Int32)), .val (.int (3 : Int32))] [(.int (1 : Int32))])) _
    refine XS.istoreN X1.here hx rfl (hb hby own_d2_40) rfl (l' := #[.val (.ref r1), .val (.int q0), .val (.int (1 : Int32)), .val (.ref r1_c), .val (.int (2 : Int32)), .val (.int (1 : Int32)), .val (.int (3 : Int32))]) rfl ?_
    show Steps p.tables e below (T1.setTop (mkF m 41 #[.val (.ref r1), .val (.int q0), .val (.int (1 : Int32)), .val (.ref r1_c), .val (.int (2 : Int32)), .val (.int (1 : Int32)), .val (.int (3 : Int32))] [])) _
    refine XS.iinc X1.here hx rfl (hb hby own_d2_41) rfl (l' := #[.val (.ref r1), .val (.int q0), .val (.int (1 : Int32)), .val (.ref r1_c), .val (.int (2 : Int32)), .val (.int ((1 : Int32) + (1 : Int32))), .val (.int (3 : Int32))]) rfl ?_
    show Steps p.tables e below (T1.setTop (mkF m 44 #[.val (.ref r1), .val (.int q0), .val (.int (1 : Int32)), .val (.ref r1_c), .val (.int (2 : Int32)), .val (.int ((1 : Int32) + (1 : Int32))), .val (.int (3 : Int32))] [])) _
    rw [show ((1 : Int32) + (1 : Int32)) = (2 : Int32) from by decide]
    show Steps p.tables e below (T1.setTop (mkF m 44 #[.val (.ref r1), .val (.int q0), .val (.int (1 : Int32)), .val (.ref r1_c), .val (.int (2 : Int32)), .val (.int (2 : Int32)), .val (.int (3 : Int32))] [])) _
    refine XS.goto X1.here hx rfl (pc0 := 44) (pc' := 14) rfl (hb hby own_d2_44) (by decide) (by decide) ?_
    show Steps p.tables e below (T1.setTop (mkF m 14 #[.val (.ref r1), .val (.int q0), .val (.int (1 : Int32)), .val (.ref r1_c), .val (.int (2 : Int32)), .val (.int (2 : Int32)), .val (.int (3 : Int32))] [])) _
    refine XS.iload X1.here hx rfl (hb hby own_d2_14) rfl ?_
    show Steps p.tables e below (T1.setTop (mkF m 16 #[.val (.ref r1), .val (.int q0), .val (.int (1 : Int32)), .val (.ref r1_c), .val (.int (2 : Int32)), .val (.int (2 : Int32)), .val (.int (3 : Int32))] [(.int (2 : Int32))])) _
    refine XS.iload X1.here hx rfl (hb hby own_d2_16) rfl ?_
    show Steps p.tables e below (T1.setTop (mkF m 18 #[.val (.ref r1), .val (.int q0), .val (.int (1 : Int32)), .val (.ref r1_c), .val (.int (2 : Int32)), .val (.int (2 : Int32)), .val (.int (3 : Int32))] [(.int (2 : Int32)), (.int (2 : Int32))])) _
    refine XS.icmpYes X1.here hx rfl (pc0 := 18) (pc' := 47) rfl (hb hby own_d2_18) rfl (flt (by decide : ¬ ((2 : Int32) < (2 : Int32)))).2.1 (by decide) (by decide) ?_
    show Steps p.tables e below (T1.setTop (mkF m 47 #[.val (.ref r1), .val (.int q0), .val (.int (1 : Int32)), .val (.ref r1_c), .val (.int (2 : Int32)), .val (.int (2 : Int32)), .val (.int (3 : Int32))] [])) _
    refine XS.iloadN X1.here hx rfl (hb hby own_d2_47) rfl ?_
    show Steps p.tables e below (T1.setTop (mkF m 48 #[.val (.ref r1), .val (.int q0), .val (.int (1 : Int32)), .val (.ref r1_c), .val (.int (2 : Int32)), .val (.int (2 : Int32)), .val (.int (3 : Int32))] [(.int (1 : Int32))])) _
    exact retN X1 hx (t := .boolean) Bd.returns (by simp) (hb hby own_d2_48) hr
  · exact ⟨rfl, N0, e1⟩
theorem own_d3_24 : decode method_3_code 24 = .ok (.iload_n 1, 1) := by decide +kernel
theorem own_d3_25 : decode method_3_code 25 = .ok (.iconst 3, 1) := by decide +kernel
theorem own_d3_26 : decode method_3_code 26 = .ok (.if_icmp .ne 7, 3) := by decide +kernel
set_option maxRecDepth 65536 in
set_option maxHeartbeats 40000000 in
theorem own_r3_16 (l : Launch) (Z : State) (a0 : Array Value) (hw : ∀ d ∈ tables_1, d.before a0 Z = true) (ws : List Jvm.Cond) (r0 : Addr) (r1 : Addr) (r2 : Addr) (r3 : Addr) (r4 : Addr) (r5 : Addr) (r6 : Addr) (r7 : Addr) (r8 : Addr) (r0_c : Addr) (cl_r0_c : Cell) (r1_c : Addr) (cl_r1_c : Cell) (r2_c : Addr) (cl_r2_c : Cell) (r3_c : Addr) (cl_r3_c : Cell) (r4_c : Addr) (cl_r4_c : Cell) (r5_c : Addr) (cl_r5_c : Cell) (r6_c : Addr) (cl_r6_c : Cell) (r7_c : Addr) (cl_r7_c : Cell) (r8_c : Addr) (cl_r8_c : Cell) (h0 : Heap) (n0 : Nat) (Z0 : n0 ≤ h0.size) (F : own_W Z h0 r0 r1 r2 r3 r4 r5 r6 r7 r8 r0_c cl_r0_c r1_c cl_r1_c r2_c cl_r2_c r3_c cl_r3_c r4_c cl_r4_c r5_c cl_r5_c r6_c cl_r6_c r7_c cl_r7_c r8_c cl_r8_c) (q0 : Int32) (h0' : ¬ (q0 = (0 : Int32))) (h3 : q0 = (3 : Int32)) :
    MetFree l (⟨"com/example/urbana/urbana/protocol/CommandTakesPinLaw", "expected", "(II)Z"⟩ : MethodName) (head1 (Jvm.Cond.code (⟨"com/example/urbana/urbana/protocol/CommandTakesPinLaw", "expected", "(II)Z"⟩ : MethodName) method_3_code 2 (some .boolean) :: ws) ({ frames := 0, cells := 0, slots := 0, locals := 0 } : Room)) (fun a U => a = #[(.int (1 : Int32)), (.int q0)] ∧ Z.Warmed39 U.vm ∧ U.heap = h0) (fun _ _ _ _ _ => True) (fun _ U o U' => ∃ v L, o = .returned v ∧ own_Q (.int (1 : Int32)) h0 n0 v U'.heap L ∧ FrameEnd U o U' L ({ frames := 0, cells := 0, slots := 0, locals := 0 } : Room).cells ({ frames := 0, cells := 0, slots := 0, locals := 0 } : Room).slots) := by
  obtain ⟨S_r0, E_r0, S_r1, E_r1, S_r2, E_r2, S_r3, E_r3, S_r4, E_r4, S_r5, E_r5, S_r6, E_r6, S_r7, E_r7, S_r8, E_r8, F_r0_counts, Ar_r0_c, F_r1_counts, Ar_r1_c, F_r2_counts, Ar_r2_c, F_r3_counts, Ar_r3_c, F_r4_counts, Ar_r4_c, F_r5_counts, Ar_r5_c, F_r6_counts, Ar_r6_c, F_r7_counts, Ar_r7_c, F_r8_counts, Ar_r8_c, Sz_r0_c, El_r0_c_0, Sz_r1_c, El_r1_c_0, El_r1_c_1, Sz_r2_c, El_r2_c_0, Sz_r3_c, Sz_r4_c, Sz_r5_c, Sz_r6_c, Sz_r7_c, Sz_r8_c⟩ := id F
  refine MetFree.of_bodySF (plainFor_of_name own_pn_CommandTakesPinLaw) hisR ?_
  intro p e s m args below meth c s₁ Bd hml0 hP hK
  obtain ⟨rfl, hZ, hh⟩ := hP
  have hx := Bd.exec
  have hby := Bd.bytes
  have hml : c.maxLocals = 2 := hml0
  have hown : s.vm.findClass "com/example/urbana/urbana/protocol/CommandTakesPinLaw" = some m.cls := findClass_of_methodNamed Bd.named
  have X0 : Stand p l e ({ frames := 0, cells := 0, slots := 0, locals := 0 } : Room) s m #[(.int (1 : Int32)), (.int q0)] below meth c s₁ [] 0 0 := Stand.of_body Bd
  have e0 : s₁.heap = h0 := by rw [← hh, Bd.state]; rfl
  have N0 := Fr.nil n0
  have pre0 : ∀ t, Steps p.tables e below (s₁.setTop (mkF m 0 #[.val (.int (1 : Int32)), .val (.int q0)] [])) t → Steps p.tables e below (s₁.setTop (entryFrame m #[(.int (1 : Int32)), (.int q0)] 2)) t := fun t k => castTop (own_ef3_II m (1 : Int32) q0) k
  obtain ⟨fs, hr, hrun, hended, hW, hsame⟩ := X0.leave (v := some (.int (1 : Int32))) (fun h => by rw [Bd.returns] at h; cases h)
  refine ⟨_, _, pre0 _ ?_, hrun, hended, _, _, rfl, ?_, ⟨_, rfl⟩, hW, hsame.mono (by decide) (by decide)⟩
  · show Steps p.tables e below (s₁.setTop (mkF m 0 #[.val (.int (1 : Int32)), .val (.int q0)] [])) _
    refine XS.iloadN X0.here hx rfl (hb hby own_d3_0) rfl ?_
    show Steps p.tables e below (s₁.setTop (mkF m 1 #[.val (.int (1 : Int32)), .val (.int q0)] [(.int (1 : Int32))])) _
    refine XS.ifYes X0.here hx rfl (pc0 := 1) (pc' := 15) rfl (hb hby own_d3_1) rfl ((if0 _ _).trans (feq (by decide : ¬ ((1 : Int32) = (0 : Int32)))).2) (by decide) (by decide) ?_
    show Steps p.tables e below (s₁.setTop (mkF m 15 #[.val (.int (1 : Int32)), .val (.int q0)] [])) _
    refine XS.iloadN X0.here hx rfl (hb hby own_d3_15) rfl ?_
    show Steps p.tables e below (s₁.setTop (mkF m 16 #[.val (.int (1 : Int32)), .val (.int q0)] [(.int (1 : Int32))])) _
    refine XS.iconst X0.here hx rfl (hb hby own_d3_16) ?_
    show Steps p.tables e below (s₁.setTop (mkF m 17 #[.val (.int (1 : Int32)), .val (.int q0)] [(.int (1 : Int32)), (.int (1 : Int32))])) _
    refine XS.icmpNo X0.here hx rfl (hb hby own_d3_17) rfl (teq (by decide : (1 : Int32) = (1 : Int32))).2 ?_
    show Steps p.tables e below (s₁.setTop (mkF m 20 #[.val (.int (1 : Int32)), .val (.int q0)] [])) _
    refine XS.iloadN X0.here hx rfl (hb hby own_d3_20) rfl ?_
    show Steps p.tables e below (s₁.setTop (mkF m 21 #[.val (.int (1 : Int32)), .val (.int q0)] [(.int q0)])) _
    refine XS.ifNo X0.here hx rfl (hb hby own_d3_21) rfl ((if0 _ _).trans (feq (h0' : ¬ (q0 = (0 : Int32)))).1) ?_
    show Steps p.tables e below (s₁.setTop (mkF m 24 #[.val (.int (1 : Int32)), .val (.int q0)] [])) _
    refine XS.iloadN X0.here hx rfl (hb hby own_d3_24) rfl ?_
    show Steps p.tables e below (s₁.setTop (mkF m 25 #[.val (.int (1 : Int32)), .val (.int q0)] [(.int q0)])) _
    refine XS.iconst X0.here hx rfl (hb hby own_d3_25) ?_
    show Steps p.tables e below (s₁.setTop (mkF m 26 #[.val (.int (1 : Int32)), .val (.int q0)] [(.int (3 : Int32)), (.int q0)])) _
    refine XS.icmpNo X0.here hx rfl (hb hby own_d3_26) rfl (teq (h3 : q0 = (3 : Int32))).2 ?_
    show Steps p.tables e below (s₁.setTop (mkF m 29 #[.val (.int (1 : Int32)), .val (.int q0)] [])) _
    refine XS.iconst X0.here hx rfl (hb hby own_d3_29) ?_
    show Steps p.tables e below (s₁.setTop (mkF m 30 #[.val (.int (1 : Int32)), .val (.int q0)] [(.int (1 : Int32))])) _
    refine XS.goto X0.here hx rfl (pc0 := 30) (pc' := 34) rfl (hb hby own_d3_30) (by decide) (by decide) ?_
    show Steps p.tables e below (s₁.setTop (mkF m 34 #[.val (.int (1 : Int32)), .val (.int q0)] [(.int (1 : Int32))])) _
    exact retN X0 hx (t := .boolean) Bd.returns (by simp) (hb hby own_d3_34) hr
  · exact ⟨rfl, N0, e0⟩
set_option maxRecDepth 65536 in
set_option maxHeartbeats 40000000 in
theorem own_r0_k1m0c1 (l : Launch) (Z : State) (a0 : Array Value) (hw : ∀ d ∈ tables_1, d.before a0 Z = true) (ws : List Jvm.Cond) (r0 : Addr) (r1 : Addr) (r2 : Addr) (r3 : Addr) (r4 : Addr) (r5 : Addr) (r6 : Addr) (r7 : Addr) (r8 : Addr) (r0_c : Addr) (cl_r0_c : Cell) (r1_c : Addr) (cl_r1_c : Cell) (r2_c : Addr) (cl_r2_c : Cell) (r3_c : Addr) (cl_r3_c : Cell) (r4_c : Addr) (cl_r4_c : Cell) (r5_c : Addr) (cl_r5_c : Cell) (r6_c : Addr) (cl_r6_c : Cell) (r7_c : Addr) (cl_r7_c : Cell) (r8_c : Addr) (cl_r8_c : Cell) (h0 : Heap) (n0 : Nat) (Z0 : n0 ≤ h0.size) (F : own_W Z h0 r0 r1 r2 r3 r4 r5 r6 r7 r8 r0_c cl_r0_c r1_c cl_r1_c r2_c cl_r2_c r3_c cl_r3_c r4_c cl_r4_c r5_c cl_r5_c r6_c cl_r6_c r7_c cl_r7_c r8_c cl_r8_c) (i0 : Int32) (i1 : Int32) (i2 : Int32) (hk : ((i0 &&& (2147483647 : Int32)) % (9 : Int32)) = (1 : Int32)) (hm : (i1 &&& (1 : Int32)) = (0 : Int32)) (h0' : ¬ (i2 = (0 : Int32))) (h3 : i2 = (3 : Int32)) :
    MetFree l x (head1 (Jvm.Cond.code x code maxLocals ret :: ws) room_1) (fun a U => a = #[(.int i0), (.int i1), (.int i2)] ∧ Z.Warmed39 U.vm ∧ U.heap = h0) (fun _ _ _ _ _ => True) (fun _ U o U' => ∃ v L, o = .returned v ∧ own_Q (.int (1 : Int32)) h0 n0 v U'.heap L ∧ FrameEnd U o U' L room_1.cells room_1.slots) := by
  obtain ⟨S_r0, E_r0, S_r1, E_r1, S_r2, E_r2, S_r3, E_r3, S_r4, E_r4, S_r5, E_r5, S_r6, E_r6, S_r7, E_r7, S_r8, E_r8, F_r0_counts, Ar_r0_c, F_r1_counts, Ar_r1_c, F_r2_counts, Ar_r2_c, F_r3_counts, Ar_r3_c, F_r4_counts, Ar_r4_c, F_r5_counts, Ar_r5_c, F_r6_counts, Ar_r6_c, F_r7_counts, Ar_r7_c, F_r8_counts, Ar_r8_c, Sz_r0_c, El_r0_c_0, Sz_r1_c, El_r1_c_0, El_r1_c_1, Sz_r2_c, El_r2_c_0, Sz_r3_c, Sz_r4_c, Sz_r5_c, Sz_r6_c, Sz_r7_c, Sz_r8_c⟩ := id F
  refine MetFree.of_bodySF (plainFor_of_name own_pn_CommandTakesPinLaw) hisR ?_
  intro p e s m args below meth c s₁ Bd hml0 hP hK
  obtain ⟨rfl, hZ, hh⟩ := hP
  have hx := Bd.exec
  have hby := Bd.bytes
  have hml : c.maxLocals = 6 := hml0
  have hown : s.vm.findClass "com/example/urbana/urbana/protocol/CommandTakesPinLaw" = some m.cls := findClass_of_methodNamed Bd.named
  have X0 : Stand p l e room_1 s m #[(.int i0), (.int i1), (.int i2)] below meth c s₁ [] 0 0 := Stand.of_body Bd
  have e0 : s₁.heap = h0 := by rw [← hh, Bd.state]; rfl
  have N0 := Fr.nil n0
  have pre0 : ∀ t, Steps p.tables e below (s₁.setTop (mkF m 0 #[.val (.int i0), .val (.int i1), .val (.int i2), .unset, .unset, .unset] [])) t → Steps p.tables e below (s₁.setTop (entryFrame m #[(.int i0), (.int i1), (.int i2)] maxLocals)) t := fun t k => castTop (own_ef0_III m i0 i1 i2) k
  obtain ⟨_, _, ⟨T1, L1, k1, n1⟩, -, X1, ⟨Lc1, hQ1, l1, y1, z1⟩, st1⟩ := Jvm.LawKit.callS X0 hx (y := (⟨"com/example/urbana/urbana/protocol/CommandTakesPinLaw", "pick", "(I)Lcom/example/urbana/urbana/protocol/Command;"⟩ : MethodName)) hown (mvT hZ (hw _ (List.mem_of_getElem? (i := 1) rfl))) (mvT hZ (hw _ (List.mem_of_getElem? (i := 2) rfl))) (mvT hZ (hw _ (List.mem_of_getElem? (i := 3) rfl))) (mvT hZ (hw _ (List.mem_of_getElem? (i := 4) rfl))) (by decide) (backOf (W := 0) (own_r1_11 l Z a0 hw [] r0 r1 r2 r3 r4 r5 r6 r7 r8 r0_c cl_r0_c r1_c cl_r1_c r2_c cl_r2_c r3_c cl_r3_c r4_c cl_r4_c r5_c cl_r5_c r6_c cl_r6_c r7_c cl_r7_c r8_c cl_r8_c h0 n0 Z0 F ) hZ (hw _ (List.mem_of_getElem? (i := 4) rfl)) (hw _ (List.mem_of_getElem? (i := 3) rfl)) (by decide) (by decide)) (g := (mkF m 29 #[.val (.int i0), .val (.int i1), .val (.int i2), .val (.int (1 : Int32)), .val (.int i2), .unset] [(.int (1 : Int32))])) rfl (by rw [hml]; rfl) (argsL := [(.int (1 : Int32))]) (rest := []) (lenOf own_pd0 rfl) rfl (by show 2 * 0 + _ ≤ _; exact Nat.le_of_eq rfl) (hb hby at_29) (fun _ _ => ⟨rfl, e0, (by decide : 0 + 0 ≤ _), (by decide : 0 + 0 ≤ _)⟩)
  dsimp only [Pt.U, Pt.locs, Pt.cells, Pt.slots] at X1 l1 y1 z1 st1 hQ1
  subst l1 y1 z1
  obtain ⟨rfl, N1q, e1⟩ := hQ1
  have N1 := Fr.app N0 N1q
  obtain ⟨cq2, kq2, q2a, q2b, q2c⟩ := isOf hZ e1 E_r1
  obtain ⟨_, _, ⟨T2, L2, k2, n2⟩, -, X2, ⟨Lc2, hQ2, l2, y2, z2⟩, st2⟩ := X1.virtualBack hx (y := (⟨"com/example/urbana/urbana/protocol/Command", "takes", "(I)Z"⟩ : MethodName)) (z := (⟨"com/example/urbana/urbana/protocol/Command", "takes", "(I)Z"⟩ : MethodName)) hown (mvT hZ (hw _ (List.mem_of_getElem? (i := 8) rfl))) (mvT hZ (hw _ (List.mem_of_getElem? (i := 9) rfl))) (notFace_of_selects (args := #[]) (mvT hZ (hw _ (List.mem_of_getElem? (i := 11) rfl)))) (mvT hZ (hw _ (List.mem_of_getElem? (i := 11) rfl))) (mvT hZ (hw _ (List.mem_of_getElem? (i := 10) rfl))) (by decide) (backOf (W := 0) (own_r2_15 l Z a0 hw [] r0 r1 r2 r3 r4 r5 r6 r7 r8 r0_c cl_r0_c r1_c cl_r1_c r2_c cl_r2_c r3_c cl_r3_c r4_c cl_r4_c r5_c cl_r5_c r6_c cl_r6_c r7_c cl_r7_c r8_c cl_r8_c h0 n0 Z0 F i2 h0' h3) hZ (hw _ (List.mem_of_getElem? (i := 12) rfl)) (hw _ (List.mem_of_getElem? (i := 6) rfl)) (by decide) (by decide)) q2a q2c (g := (mkF m 38 #[.val (.int i0), .val (.int i1), .val (.int i2), .val (.int (1 : Int32)), .val (.int i2), .val (.ref r1)] [(.int i2), (.ref r1)])) rfl (by rw [hml]; rfl) (Steps.refl _) (argsL := [(.int i2)]) (rest := []) (lenOf own_pd1 rfl) rfl (by show 2 * 0 + _ ≤ _; exact Nat.le_of_eq rfl) (hb hby at_38) (fun _ _ => ⟨rfl, e1, (by decide : 0 + 0 ≤ _), (by decide : 0 + 0 ≤ _)⟩)
  dsimp only [Pt.U, Pt.locs, Pt.cells, Pt.slots] at X2 l2 y2 z2 st2 hQ2
  subst l2 y2 z2
  obtain ⟨rfl, N2q, e2⟩ := hQ2
  have N2 := Fr.app N1 N2q
  obtain ⟨_, _, ⟨T3, L3, k3, n3⟩, -, X3, ⟨Lc3, hQ3, l3, y3, z3⟩, st3⟩ := Jvm.LawKit.callS X2 hx (y := (⟨"com/example/urbana/urbana/protocol/CommandTakesPinLaw", "expected", "(II)Z"⟩ : MethodName)) hown (mvT hZ (hw _ (List.mem_of_getElem? (i := 15) rfl))) (mvT hZ (hw _ (List.mem_of_getElem? (i := 16) rfl))) (mvT hZ (hw _ (List.mem_of_getElem? (i := 3) rfl))) (mvT hZ (hw _ (List.mem_of_getElem? (i := 17) rfl))) (by decide) (backOf (W := 1) (own_r3_16 l Z a0 hw [] r0 r1 r2 r3 r4 r5 r6 r7 r8 r0_c cl_r0_c r1_c cl_r1_c r2_c cl_r2_c r3_c cl_r3_c r4_c cl_r4_c r5_c cl_r5_c r6_c cl_r6_c r7_c cl_r7_c r8_c cl_r8_c h0 n0 Z0 F i2 h0' h3) hZ (hw _ (List.mem_of_getElem? (i := 17) rfl)) (hw _ (List.mem_of_getElem? (i := 3) rfl)) (by decide) (by decide)) (g := (mkF m 44 #[.val (.int i0), .val (.int i1), .val (.int i2), .val (.int (1 : Int32)), .val (.int i2), .val (.ref r1)] [(.int i2), (.int (1 : Int32)), (.int (1 : Int32))])) rfl (by rw [hml]; rfl) (argsL := [(.int (1 : Int32)), (.int i2)]) (rest := [(.int (1 : Int32))]) (lenOf own_pd2 rfl) rfl (by show 2 * 0 + _ ≤ _; exact Nat.le_of_eq rfl) (hb hby at_44) (fun _ _ => ⟨rfl, e2, (by decide : 0 + 0 ≤ _), (by decide : 0 + 0 ≤ _)⟩)
  dsimp only [Pt.U, Pt.locs, Pt.cells, Pt.slots] at X3 l3 y3 z3 st3 hQ3
  subst l3 y3 z3
  obtain ⟨rfl, N3q, e3⟩ := hQ3
  have N3 := Fr.app N2 N3q
  obtain ⟨fs, hr, hrun, hended, hW, hsame⟩ := X3.leave (v := some (.int (1 : Int32))) (fun h => by rw [Bd.returns] at h; cases h)
  refine ⟨_, _, pre0 _ ?_, hrun, hended, _, _, rfl, ?_, ⟨_, rfl⟩, hW, hsame.mono (by decide) (by decide)⟩
  · show Steps p.tables e below (s₁.setTop (mkF m 0 #[.val (.int i0), .val (.int i1), .val (.int i2), .unset, .unset, .unset] [])) _
    refine XS.iloadN X0.here hx rfl (hb hby at_0) rfl ?_
    show Steps p.tables e below (s₁.setTop (mkF m 1 #[.val (.int i0), .val (.int i1), .val (.int i2), .unset, .unset, .unset] [(.int i0)])) _
    refine X0.ldcInt hx hown (mvT hZ (hw _ (List.mem_of_getElem? (i := 0) rfl))) (g := (mkF m 1 #[.val (.int i0), .val (.int i1), .val (.int i2), .unset, .unset, .unset] [(.int i0)])) rfl (hb hby at_1) _ ?_
    show Steps p.tables e below (s₁.setTop (mkF m 3 #[.val (.int i0), .val (.int i1), .val (.int i2), .unset, .unset, .unset] [(.int (2147483647 : Int32)), (.int i0)])) _
    refine XS.iand X0.here hx rfl (hb hby at_3) rfl ?_
    show Steps p.tables e below (s₁.setTop (mkF m 4 #[.val (.int i0), .val (.int i1), .val (.int i2), .unset, .unset, .unset] [(.int (i0 &&& (2147483647 : Int32)))])) _
    refine XS.bipush X0.here hx rfl (hb hby at_4) ?_
    show Steps p.tables e below (s₁.setTop (mkF m 6 #[.val (.int i0), .val (.int i1), .val (.int i2), .unset, .unset, .unset] [(.int (9 : Int32)), (.int (i0 &&& (2147483647 : Int32)))])) _
    refine iremM (g := (mkF m 6 #[.val (.int i0), .val (.int i1), .val (.int i2), .unset, .unset, .unset] [(.int (9 : Int32)), (.int (i0 &&& (2147483647 : Int32)))])) X0 hx rfl (hb hby at_6) rfl (by decide) ?_
    show Steps p.tables e below (s₁.setTop (mkF m 7 #[.val (.int i0), .val (.int i1), .val (.int i2), .unset, .unset, .unset] [(.int ((i0 &&& (2147483647 : Int32)) % (9 : Int32)))])) _
    rw [hk]
    show Steps p.tables e below (s₁.setTop (mkF m 7 #[.val (.int i0), .val (.int i1), .val (.int i2), .unset, .unset, .unset] [(.int (1 : Int32))])) _
    refine XS.istoreN X0.here hx rfl (hb hby at_7) rfl (l' := #[.val (.int i0), .val (.int i1), .val (.int i2), .val (.int (1 : Int32)), .unset, .unset]) rfl ?_
    show Steps p.tables e below (s₁.setTop (mkF m 8 #[.val (.int i0), .val (.int i1), .val (.int i2), .val (.int (1 : Int32)), .unset, .unset] [])) _
    refine XS.iloadN X0.here hx rfl (hb hby at_8) rfl ?_
    show Steps p.tables e below (s₁.setTop (mkF m 9 #[.val (.int i0), .val (.int i1), .val (.int i2), .val (.int (1 : Int32)), .unset, .unset] [(.int i1)])) _
    refine XS.iconst X0.here hx rfl (hb hby at_9) ?_
    show Steps p.tables e below (s₁.setTop (mkF m 10 #[.val (.int i0), .val (.int i1), .val (.int i2), .val (.int (1 : Int32)), .unset, .unset] [(.int (1 : Int32)), (.int i1)])) _
    refine XS.iand X0.here hx rfl (hb hby at_10) rfl ?_
    show Steps p.tables e below (s₁.setTop (mkF m 11 #[.val (.int i0), .val (.int i1), .val (.int i2), .val (.int (1 : Int32)), .unset, .unset] [(.int (i1 &&& (1 : Int32)))])) _
    rw [hm]
    show Steps p.tables e below (s₁.setTop (mkF m 11 #[.val (.int i0), .val (.int i1), .val (.int i2), .val (.int (1 : Int32)), .unset, .unset] [(.int (0 : Int32))])) _
    refine XS.ifYes X0.here hx rfl (pc0 := 11) (pc' := 25) rfl (hb hby at_11) rfl ((if0 _ _).trans (teq (by decide : (0 : Int32) = (0 : Int32))).1) (by decide) (by decide) ?_
    show Steps p.tables e below (s₁.setTop (mkF m 25 #[.val (.int i0), .val (.int i1), .val (.int i2), .val (.int (1 : Int32)), .unset, .unset] [])) _
    refine XS.iloadN X0.here hx rfl (hb hby at_25) rfl ?_
    show Steps p.tables e below (s₁.setTop (mkF m 26 #[.val (.int i0), .val (.int i1), .val (.int i2), .val (.int (1 : Int32)), .unset, .unset] [(.int i2)])) _
    refine XS.istore X0.here hx rfl (hb hby at_26) rfl (l' := #[.val (.int i0), .val (.int i1), .val (.int i2), .val (.int (1 : Int32)), .val (.int i2), .unset]) rfl ?_
    show Steps p.tables e below (s₁.setTop (mkF m 28 #[.val (.int i0), .val (.int i1), .val (.int i2), .val (.int (1 : Int32)), .val (.int i2), .unset] [])) _
    refine XS.iloadN X0.here hx rfl (hb hby at_28) rfl ?_
    show Steps p.tables e below (s₁.setTop (mkF m 29 #[.val (.int i0), .val (.int i1), .val (.int i2), .val (.int (1 : Int32)), .val (.int i2), .unset] [(.int (1 : Int32))])) _
    refine st1 _ ?_
    show Steps p.tables e below (T1.setTop (mkF m 32 #[.val (.int i0), .val (.int i1), .val (.int i2), .val (.int (1 : Int32)), .val (.int i2), .unset] [(.ref r1)])) _
    refine XS.astore X1.here hx rfl (hb hby at_32) rfl rfl (l' := #[.val (.int i0), .val (.int i1), .val (.int i2), .val (.int (1 : Int32)), .val (.int i2), .val (.ref r1)]) rfl ?_
    show Steps p.tables e below (T1.setTop (mkF m 34 #[.val (.int i0), .val (.int i1), .val (.int i2), .val (.int (1 : Int32)), .val (.int i2), .val (.ref r1)] [])) _
    refine XS.aload X1.here hx rfl (hb hby at_34) rfl rfl ?_
    show Steps p.tables e below (T1.setTop (mkF m 36 #[.val (.int i0), .val (.int i1), .val (.int i2), .val (.int (1 : Int32)), .val (.int i2), .val (.ref r1)] [(.ref r1)])) _
    refine XS.iload X1.here hx rfl (hb hby at_36) rfl ?_
    show Steps p.tables e below (T1.setTop (mkF m 38 #[.val (.int i0), .val (.int i1), .val (.int i2), .val (.int (1 : Int32)), .val (.int i2), .val (.ref r1)] [(.int i2), (.ref r1)])) _
    refine st2.trans ?_
    show Steps p.tables e below (T2.setTop (mkF m 41 #[.val (.int i0), .val (.int i1), .val (.int i2), .val (.int (1 : Int32)), .val (.int i2), .val (.ref r1)] [(.int (1 : Int32))])) _
    refine XS.iloadN X2.here hx rfl (hb hby at_41) rfl ?_
    show Steps p.tables e below (T2.setTop (mkF m 42 #[.val (.int i0), .val (.int i1), .val (.int i2), .val (.int (1 : Int32)), .val (.int i2), .val (.ref r1)] [(.int (1 : Int32)), (.int (1 : Int32))])) _
    refine XS.iload X2.here hx rfl (hb hby at_42) rfl ?_
    show Steps p.tables e below (T2.setTop (mkF m 44 #[.val (.int i0), .val (.int i1), .val (.int i2), .val (.int (1 : Int32)), .val (.int i2), .val (.ref r1)] [(.int i2), (.int (1 : Int32)), (.int (1 : Int32))])) _
    refine st3 _ ?_
    show Steps p.tables e below (T3.setTop (mkF m 47 #[.val (.int i0), .val (.int i1), .val (.int i2), .val (.int (1 : Int32)), .val (.int i2), .val (.ref r1)] [(.int (1 : Int32)), (.int (1 : Int32))])) _
    refine XS.icmpNo X3.here hx rfl (hb hby at_47) rfl (teq (by decide : (1 : Int32) = (1 : Int32))).2 ?_
    show Steps p.tables e below (T3.setTop (mkF m 50 #[.val (.int i0), .val (.int i1), .val (.int i2), .val (.int (1 : Int32)), .val (.int i2), .val (.ref r1)] [])) _
    refine XS.iconst X3.here hx rfl (hb hby at_50) ?_
    show Steps p.tables e below (T3.setTop (mkF m 51 #[.val (.int i0), .val (.int i1), .val (.int i2), .val (.int (1 : Int32)), .val (.int i2), .val (.ref r1)] [(.int (1 : Int32))])) _
    refine XS.goto X3.here hx rfl (pc0 := 51) (pc' := 55) rfl (hb hby at_51) (by decide) (by decide) ?_
    show Steps p.tables e below (T3.setTop (mkF m 55 #[.val (.int i0), .val (.int i1), .val (.int i2), .val (.int (1 : Int32)), .val (.int i2), .val (.ref r1)] [(.int (1 : Int32))])) _
    exact retN X3 hx (t := .boolean) Bd.returns (by simp) (hb hby at_55) hr
  · exact ⟨rfl, N3, e3⟩
set_option maxRecDepth 65536 in
set_option maxHeartbeats 40000000 in
theorem own_r2_18 (l : Launch) (Z : State) (a0 : Array Value) (hw : ∀ d ∈ tables_1, d.before a0 Z = true) (ws : List Jvm.Cond) (r0 : Addr) (r1 : Addr) (r2 : Addr) (r3 : Addr) (r4 : Addr) (r5 : Addr) (r6 : Addr) (r7 : Addr) (r8 : Addr) (r0_c : Addr) (cl_r0_c : Cell) (r1_c : Addr) (cl_r1_c : Cell) (r2_c : Addr) (cl_r2_c : Cell) (r3_c : Addr) (cl_r3_c : Cell) (r4_c : Addr) (cl_r4_c : Cell) (r5_c : Addr) (cl_r5_c : Cell) (r6_c : Addr) (cl_r6_c : Cell) (r7_c : Addr) (cl_r7_c : Cell) (r8_c : Addr) (cl_r8_c : Cell) (h0 : Heap) (n0 : Nat) (Z0 : n0 ≤ h0.size) (F : own_W Z h0 r0 r1 r2 r3 r4 r5 r6 r7 r8 r0_c cl_r0_c r1_c cl_r1_c r2_c cl_r2_c r3_c cl_r3_c r4_c cl_r4_c r5_c cl_r5_c r6_c cl_r6_c r7_c cl_r7_c r8_c cl_r8_c) (q0 : Int32) (h0' : ¬ (q0 = (0 : Int32))) (h3 : ¬ (q0 = (3 : Int32))) :
    MetFree l (⟨"com/example/urbana/urbana/protocol/Command", "takes", "(I)Z"⟩ : MethodName) (head1 (Jvm.Cond.code (⟨"com/example/urbana/urbana/protocol/Command", "takes", "(I)Z"⟩ : MethodName) prog_2_method_8_code 7 (some .boolean) :: ws) ({ frames := 0, cells := 0, slots := 0, locals := 0 } : Room)) (fun a U => a = #[(.ref r1), (.int q0)] ∧ Z.Warmed39 U.vm ∧ U.heap = h0) (fun _ _ _ _ _ => True) (fun _ U o U' => ∃ v L, o = .returned v ∧ own_Q (.int (0 : Int32)) h0 n0 v U'.heap L ∧ FrameEnd U o U' L ({ frames := 0, cells := 0, slots := 0, locals := 0 } : Room).cells ({ frames := 0, cells := 0, slots := 0, locals := 0 } : Room).slots) := by
  obtain ⟨S_r0, E_r0, S_r1, E_r1, S_r2, E_r2, S_r3, E_r3, S_r4, E_r4, S_r5, E_r5, S_r6, E_r6, S_r7, E_r7, S_r8, E_r8, F_r0_counts, Ar_r0_c, F_r1_counts, Ar_r1_c, F_r2_counts, Ar_r2_c, F_r3_counts, Ar_r3_c, F_r4_counts, Ar_r4_c, F_r5_counts, Ar_r5_c, F_r6_counts, Ar_r6_c, F_r7_counts, Ar_r7_c, F_r8_counts, Ar_r8_c, Sz_r0_c, El_r0_c_0, Sz_r1_c, El_r1_c_0, El_r1_c_1, Sz_r2_c, El_r2_c_0, Sz_r3_c, Sz_r4_c, Sz_r5_c, Sz_r6_c, Sz_r7_c, Sz_r8_c⟩ := id F
  refine MetFree.of_bodySF (plainFor_of_name own_pn_Command) hisR ?_
  intro p e s m args below meth c s₁ Bd hml0 hP hK
  obtain ⟨rfl, hZ, hh⟩ := hP
  have hx := Bd.exec
  have hby := Bd.bytes
  have hml : c.maxLocals = 7 := hml0
  have hown : s.vm.findClass "com/example/urbana/urbana/protocol/Command" = some m.cls := findClass_of_methodNamed Bd.named
  have X0 : Stand p l e ({ frames := 0, cells := 0, slots := 0, locals := 0 } : Room) s m #[(.ref r1), (.int q0)] below meth c s₁ [] 0 0 := Stand.of_body Bd
  have e0 : s₁.heap = h0 := by rw [← hh, Bd.state]; rfl
  have N0 := Fr.nil n0
  have pre0 : ∀ t, Steps p.tables e below (s₁.setTop (mkF m 0 #[.val (.ref r1), .val (.int q0), .unset, .unset, .unset, .unset, .unset] [])) t → Steps p.tables e below (s₁.setTop (entryFrame m #[(.ref r1), (.int q0)] 7)) t := fun t k => castTop (own_ef2_RI m r1 q0) k
  obtain ⟨T1, X1, e1, st1⟩ := getF X0 hx hZ hown (host := "") (Or.inl (hw _ (List.mem_of_getElem? (i := 13) rfl))) Via.refl e0 F_r1_counts (g := (mkF m 3 #[.val (.ref r1), .val (.int q0), .val (.int (0 : Int32)), .unset, .unset, .unset, .unset] [(.ref r1)])) rfl rfl (hb hby own_d2_3)
  obtain ⟨fs, hr, hrun, hended, hW, hsame⟩ := X1.leave (v := some (.int (0 : Int32))) (fun h => by rw [Bd.returns] at h; cases h)
  refine ⟨_, _, pre0 _ ?_, hrun, hended, _, _, rfl, ?_, ⟨_, rfl⟩, hW, hsame.mono (by decide) (by decide)⟩
  · show Steps p.tables e below (s₁.setTop (mkF m 0 #[.val (.ref r1), .val (.int q0), .unset, .unset, .unset, .unset, .unset] [])) _
    refine XS.iconst X0.here hx rfl (hb hby own_d2_0) ?_
    show Steps p.tables e below (s₁.setTop (mkF m 1 #[.val (.ref r1), .val (.int q0), .unset, .unset, .unset, .unset, .unset] [(.int (0 : Int32))])) _
    refine XS.istoreN X0.here hx rfl (hb hby own_d2_1) rfl (l' := #[.val (.ref r1), .val (.int q0), .val (.int (0 : Int32)), .unset, .unset, .unset, .unset]) rfl ?_
    show Steps p.tables e below (s₁.setTop (mkF m 2 #[.val (.ref r1), .val (.int q0), .val (.int (0 : Int32)), .unset, .unset, .unset, .unset] [])) _
    refine XS.aloadN X0.here hx rfl (hb hby own_d2_2) rfl rfl ?_
    show Steps p.tables e below (s₁.setTop (mkF m 3 #[.val (.ref r1), .val (.int q0), .val (.int (0 : Int32)), .unset, .unset, .unset, .unset] [(.ref r1)])) _
    refine st1 _ ?_
    show Steps p.tables e below (T1.setTop (mkF m 6 #[.val (.ref r1), .val (.int q0), .val (.int (0 : Int32)), .unset, .unset, .unset, .unset] [(.ref r1_c)])) _
    refine XS.astoreN X1.here hx rfl (hb hby own_d2_6) rfl rfl (l' := #[.val (.ref r1), .val (.int q0), .val (.int (0 : Int32)), .val (.ref r1_c), .unset, .unset, .unset]) rfl ?_
    show Steps p.tables e below (T1.setTop (mkF m 7 #[.val (.ref r1), .val (.int q0), .val (.int (0 : Int32)), .val (.ref r1_c), .unset, .unset, .unset] [])) _
    refine XS.aloadN X1.here hx rfl (hb hby own_d2_7) rfl rfl ?_
    show Steps p.tables e below (T1.setTop (mkF m 8 #[.val (.ref r1), .val (.int q0), .val (.int (0 : Int32)), .val (.ref r1_c), .unset, .unset, .unset] [(.ref r1_c)])) _
    refine X1.arraylength hx (by rw [e1]; exact Ar_r1_c.1) (State.isArrayOf_alike hZ.alike Ar_r1_c.2.1) (g := (mkF m 8 #[.val (.ref r1), .val (.int q0), .val (.int (0 : Int32)), .val (.ref r1_c), .unset, .unset, .unset] [(.ref r1_c)])) rfl rfl (hb hby own_d2_8) _ ?_
    rw [len_of Sz_r1_c (by decide)]
    show Steps p.tables e below (T1.setTop (mkF m 9 #[.val (.ref r1), .val (.int q0), .val (.int (0 : Int32)), .val (.ref r1_c), .unset, .unset, .unset] [(.int (2 : Int32))])) _
    refine XS.istore X1.here hx rfl (hb hby own_d2_9) rfl (l' := #[.val (.ref r1), .val (.int q0), .val (.int (0 : Int32)), .val (.ref r1_c), .val (.int (2 : Int32)), .unset, .unset]) rfl ?_
    show Steps p.tables e below (T1.setTop (mkF m 11 #[.val (.ref r1), .val (.int q0), .val (.int (0 : Int32)), .val (.ref r1_c), .val (.int (2 : Int32)), .unset, .unset] [])) _
    refine XS.iconst X1.here hx rfl (hb hby own_d2_11) ?_
    show Steps p.tables e below (T1.setTop (mkF m 12 #[.val (.ref r1), .val (.int q0), .val (.int (0 : Int32)), .val (.ref r1_c), .val (.int (2 : Int32)), .unset, .unset] [(.int (0 : Int32))])) _
    refine XS.istore X1.here hx rfl (hb hby own_d2_12) rfl (l' := #[.val (.ref r1), .val (.int q0), .val (.int (0 : Int32)), .val (.ref r1_c), .val (.int (2 : Int32)), .val (.int (0 : Int32)), .unset]) rfl ?_
    show Steps p.tables e below (T1.setTop (mkF m 14 #[.val (.ref r1), .val (.int q0), .val (.int (0 : Int32)), .val (.ref r1_c), .val (.int (2 : Int32)), .val (.int (0 : Int32)), .unset] [])) _
    refine XS.iload X1.here hx rfl (hb hby own_d2_14) rfl ?_
    show Steps p.tables e below (T1.setTop (mkF m 16 #[.val (.ref r1), .val (.int q0), .val (.int (0 : Int32)), .val (.ref r1_c), .val (.int (2 : Int32)), .val (.int (0 : Int32)), .unset] [(.int (0 : Int32))])) _
    refine XS.iload X1.here hx rfl (hb hby own_d2_16) rfl ?_
    show Steps p.tables e below (T1.setTop (mkF m 18 #[.val (.ref r1), .val (.int q0), .val (.int (0 : Int32)), .val (.ref r1_c), .val (.int (2 : Int32)), .val (.int (0 : Int32)), .unset] [(.int (2 : Int32)), (.int (0 : Int32))])) _
    refine XS.icmpNo X1.here hx rfl (hb hby own_d2_18) rfl (tlt (by decide : (0 : Int32) < (2 : Int32))).2.1 ?_
    show Steps p.tables e below (T1.setTop (mkF m 21 #[.val (.ref r1), .val (.int q0), .val (.int (0 : Int32)), .val (.ref r1_c), .val (.int (2 : Int32)), .val (.int (0 : Int32)), .unset] [])) _
    refine XS.aloadN X1.here hx rfl (hb hby own_d2_21) rfl rfl ?_
    show Steps p.tables e below (T1.setTop (mkF m 22 #[.val (.ref r1), .val (.int q0), .val (.int (0 : Int32)), .val (.ref r1_c), .val (.int (2 : Int32)), .val (.int (0 : Int32)), .unset] [(.ref r1_c)])) _
    refine XS.iload X1.here hx rfl (hb hby own_d2_22) rfl ?_
    show Steps p.tables e below (T1.setTop (mkF m 24 #[.val (.ref r1), .val (.int q0), .val (.int (0 : Int32)), .val (.ref r1_c), .val (.int (2 : Int32)), .val (.int (0 : Int32)), .unset] [(.int (0 : Int32)), (.ref r1_c)])) _
    refine X1.iaload hx (j := (0 : Int32)) (v := (.int (0 : Int32))) (by rw [e1]; exact Ar_r1_c.1) (State.isArrayOf_alike hZ.alike Ar_r1_c.2.1) Ar_r1_c.2.2 (inb_of Sz_r1_c ⟨by decide, by decide⟩) El_r1_c_0 (g := (mkF m 24 #[.val (.ref r1), .val (.int q0), .val (.int (0 : Int32)), .val (.ref r1_c), .val (.int (2 : Int32)), .val (.int (0 : Int32)), .unset] [(.int (0 : Int32)), (.ref r1_c)])) rfl rfl (hb hby own_d2_24) _ ?_
    show Steps p.tables e below (T1.setTop (mkF m 25 #[.val (.ref r1), .val (.int q0), .val (.int (0 : Int32)), .val (.ref r1_c), .val (.int (2 : Int32)), .val (.int (0 : Int32)), .unset] [(.int (0 : Int32))])) _
    refine XS.istore X1.here hx rfl (hb hby own_d2_25) rfl (l' := #[.val (.ref r1), .val (.int q0), .val (.int (0 : Int32)), .val (.ref r1_c), .val (.int (2 : Int32)), .val (.int (0 : Int32)), .val (.int (0 : Int32))]) rfl ?_
    show Steps p.tables e below (T1.setTop (mkF m 27 #[.val (.ref r1), .val (.int q0), .val (.int (0 : Int32)), .val (.ref r1_c), .val (.int (2 : Int32)), .val (.int (0 : Int32)), .val (.int (0 : Int32))] [])) _
    refine XS.iloadN X1.here hx rfl (hb hby own_d2_27) rfl ?_
    show Steps p.tables e below (T1.setTop (mkF m 28 #[.val (.ref r1), .val (.int q0), .val (.int (0 : Int32)), .val (.ref r1_c), .val (.int (2 : Int32)), .val (.int (0 : Int32)), .val (.int (0 : Int32))] [(.int (0 : Int32))])) _
    refine XS.iload X1.here hx rfl (hb hby own_d2_28) rfl ?_
    show Steps p.tables e below (T1.setTop (mkF m 30 #[.val (.ref r1), .val (.int q0), .val (.int (0 : Int32)), .val (.ref r1_c), .val (.int (2 : Int32)), .val (.int (0 : Int32)), .val (.int (0 : Int32))] [(.int (0 : Int32)), (.int (0 : Int32))])) _
    refine XS.iloadN X1.here hx rfl (hb hby own_d2_30) rfl ?_
    show Steps p.tables e below (T1.setTop (mkF m 31 #[.val (.ref r1), .val (.int q0), .val (.int (0 : Int32)), .val (.ref r1_c), .val (.int (2 : Int32)), .val (.int (0 : Int32)), .val (.int (0 : Int32))] [(.int q0), (.int (0 : Int32)), (.int (0 : Int32))])) _
    refine XS.icmpYes X1.here hx rfl (pc0 := 31) (pc' := 38) rfl (hb hby own_d2_31) rfl (feq ((Ne.symm h0') : ¬ ((0 : Int32) = q0))).2 (by decide) (by decide) ?_
    show Steps p.tables e below (T1.setTop (mkF m 38 #[.val (.ref r1), .val (.int q0), .val (.int (0 : Int32)), .val (.ref r1_c), .val (.int (2 : Int32)), .val (.int (0 : Int32)), .val (.int (0 : Int32))] [(.int (0 : Int32))])) _
    refine XS.iconst X1.here hx rfl (hb hby own_d2_38) ?_
    show Steps p.tables e below (T1.setTop (mkF m 39 #[.val (.ref r1), .val (.int q0), .val (.int (0 : Int32)), .val (.ref r1_c), .val (.int (2 : Int32)), .val (.int (0 : Int32)), .val (.int (0 : Int32))] [(.int (0 : Int32)), (.int (0 : Int32))])) _
    refine XS.ior X1.here hx rfl (hb hby own_d2_39) rfl ?_
    show Steps p.tables e below (T1.setTop (mkF m 40 #[.val (.ref r1), .val (.int q0), .val (.int (0 : Int32)), .val (.ref r1_c), .val (.int (2 : Int32)), .val (.int (0 : Int32)), .val (.int (0 : Int32))] [(.int ((0 : Int32) ||| (0 : Int32)))])) _
    rw [show ((0 : Int32) ||| (0 : Int32)) = (0 : Int32) from by decide]
    show Steps p.tables e below (T1.setTop (mkF m 40 #[.val (.ref r1), .val (.int q0), .val (.int (0 : Int32)), .val (.ref r1_c), .val (.int (2 : Int32)), .val (.int (0 : Int32)), .val (.int (0 : Int32))] [(.int (0 : Int32))])) _
    refine XS.istoreN X1.here hx rfl (hb hby own_d2_40) rfl (l' := #[.val (.ref r1), .val (.int q0), .val (.int (0 : Int32)), .val (.ref r1_c), .val (.int (2 : Int32)), .val (.int (0 : Int32)), .val (.int (0 : Int32))]) rfl ?_
    show Steps p.tables e below (T1.setTop (mkF m 41 #[.val (.ref r1), .val (.int q0), .val (.int (0 : Int32)), .val (.ref r1_c), .val (.int (2 : Int32)), .val (.int (0 : Int32)), .val (.int (0 : Int32))] [])) _
    refine XS.iinc X1.here hx rfl (hb hby own_d2_41) rfl (l' := #[.val (.ref r1), .val (.int q0), .val (.int (0 : Int32)), .val (.ref r1_c), .val (.int (2 : Int32)), .val (.int ((0 : Int32) + (1 : Int32))), .val (.int (0 : Int32))]) rfl ?_
    show Steps p.tables e below (T1.setTop (mkF m 44 #[.val (.ref r1), .val (.int q0), .val (.int (0 : Int32)), .val (.ref r1_c), .val (.int (2 : Int32)), .val (.int ((0 : Int32) + (1 : Int32))), .val (.int (0 : Int32))] [])) _
    rw [show ((0 : Int32) + (1 : Int32)) = (1 : Int32) from by decide]
    show Steps p.tables e below (T1.setTop (mkF m 44 #[.val (.ref r1), .val (.int q0), .val (.int (0 : Int32)), .val (.ref r1_c), .val (.int (2 : Int32)), .val (.int (1 : Int32)), .val (.int (0 : Int32))] [])) _
    refine XS.goto X1.here hx rfl (pc0 := 44) (pc' := 14) rfl (hb hby own_d2_44) (by decide) (by decide) ?_
    show Steps p.tables e below (T1.setTop (mkF m 14 #[.val (.ref r1), .val (.int q0), .val (.int (0 : Int32)), .val (.ref r1_c), .val (.int (2 : Int32)), .val (.int (1 : Int32)), .val (.int (0 : Int32))] [])) _
    refine XS.iload X1.here hx rfl (hb hby own_d2_14) rfl ?_
    show Steps p.tables e below (T1.setTop (mkF m 16 #[.val (.ref r1), .val (.int q0), .val (.int (0 : Int32)), .val (.ref r1_c), .val (.int (2 : Int32)), .val (.int (1 : Int32)), .val (.int (0 : Int32))] [(.int (1 : Int32))])) _
    refine XS.iload X1.here hx rfl (hb hby own_d2_16) rfl ?_
    show Steps p.tables e below (T1.setTop (mkF m 18 #[.val (.ref r1), .val (.int q0), .val (.int (0 : Int32)), .val (.ref r1_c), .val (.int (2 : Int32)), .val (.int (1 : Int32)), .val (.int (0 : Int32))] [(.int (2 : Int32)), (.int (1 : Int32))])) _
    refine XS.icmpNo X1.here hx rfl (hb hby own_d2_18) rfl (tlt (by decide : (1 : Int32) < (2 : Int32))).2.1 ?_
    show Steps p.tables e below (T1.setTop (mkF m 21 #[.val (.ref r1), .val (.int q0), .val (.int (0 : Int32)), .val (.ref r1_c), .val (.int (2 : Int32)), .val (.int (1 : Int32)), .val (.int (0 : Int32))] [])) _
    refine XS.aloadN X1.here hx rfl (hb hby own_d2_21) rfl rfl ?_
    show Steps p.tables e below (T1.setTop (mkF m 22 #[.val (.ref r1), .val (.int q0), .val (.int (0 : Int32)), .val (.ref r1_c), .val (.int (2 : Int32)), .val (.int (1 : Int32)), .val (.int (0 : Int32))] [(.ref r1_c)])) _
    refine XS.iload X1.here hx rfl (hb hby own_d2_22) rfl ?_
    show Steps p.tables e below (T1.setTop (mkF m 24 #[.val (.ref r1), .val (.int q0), .val (.int (0 : Int32)), .val (.ref r1_c), .val (.int (2 : Int32)), .val (.int (1 : Int32)), .val (.int (0 : Int32))] [(.int (1 : Int32)), (.ref r1_c)])) _
    refine X1.iaload hx (j := (1 : Int32)) (v := (.int (3 : Int32))) (by rw [e1]; exact Ar_r1_c.1) (State.isArrayOf_alike hZ.alike Ar_r1_c.2.1) Ar_r1_c.2.2 (inb_of Sz_r1_c ⟨by decide, by decide⟩) El_r1_c_1 (g := (mkF m 24 #[.val (.ref r1), .val (.int q0), .val (.int (0 : Int32)), .val (.ref r1_c), .val (.int (2 : Int32)), .val (.int (1 : Int32)), .val (.int (0 : Int32))] [(.int (1 : Int32)), (.ref r1_c)])) rfl rfl (hb hby own_d2_24) _ ?_
    show Steps p.tables e below (T1.setTop (mkF m 25 #[.val (.ref r1), .val (.int q0), .val (.int (0 : Int32)), .val (.ref r1_c), .val (.int (2 : Int32)), .val (.int (1 : Int32)), .val (.int (0 : Int32))] [(.int (3 : Int32))])) _
    refine XS.istore X1.here hx rfl (hb hby own_d2_25) rfl (l' := #[.val (.ref r1), .val (.int q0), .val (.int (0 : Int32)), .val (.ref r1_c), .val (.int (2 : Int32)), .val (.int (1 : Int32)), .val (.int (3 : Int32))]) rfl ?_
    show Steps p.tables e below (T1.setTop (mkF m 27 #[.val (.ref r1), .val (.int q0), .val (.int (0 : Int32)), .val (.ref r1_c), .val (.int (2 : Int32)), .val (.int (1 : Int32)), .val (.int (3 : Int32))] [])) _
    refine XS.iloadN X1.here hx rfl (hb hby own_d2_27) rfl ?_
    show Steps p.tables e below (T1.setTop (mkF m 28 #[.val (.ref r1), .val (.int q0), .val (.int (0 : Int32)), .val (.ref r1_c), .val (.int (2 : Int32)), .val (.int (1 : Int32)), .val (.int (3 : Int32))] [(.int (0 : Int32))])) _
    refine XS.iload X1.here hx rfl (hb hby own_d2_28) rfl ?_
    show Steps p.tables e below (T1.setTop (mkF m 30 #[.val (.ref r1), .val (.int q0), .val (.int (0 : Int32)), .val (.ref r1_c), .val (.int (2 : Int32)), .val (.int (1 : Int32)), .val (.int (3 : Int32))] [(.int (3 : Int32)), (.int (0 : Int32))])) _
    refine XS.iloadN X1.here hx rfl (hb hby own_d2_30) rfl ?_
    show Steps p.tables e below (T1.setTop (mkF m 31 #[.val (.ref r1), .val (.int q0), .val (.int (0 : Int32)), .val (.ref r1_c), .val (.int (2 : Int32)), .val (.int (1 : Int32)), .val (.int (3 : Int32))] [(.int q0), (.int (3 : Int32)), (.int (0 : Int32))])) _
    refine XS.icmpYes X1.here hx rfl (pc0 := 31) (pc' := 38) rfl (hb hby own_d2_31) rfl (feq ((Ne.symm h3) : ¬ ((3 : Int32) = q0))).2 (by decide) (by decide) ?_
    show Steps p.tables e below (T1.setTop (mkF m 38 #[.val (.ref r1), .val (.int q0), .val (.int (0 : Int32)), .val (.ref r1_c), .val (.int (2 : Int32)), .val (.int (1 : Int32)), .val (.int (3 : Int32))] [(.int (0 : Int32))])) _
    refine XS.iconst X1.here hx rfl (hb hby own_d2_38) ?_
    show Steps p.tables e below (T1.setTop (mkF m 39 #[.val (.ref r1), .val (.int q0), .val (.int (0 : Int32)), .val (.ref r1_c), .val (.int (2 : Int32)), .val (.int (1 : Int32)), .val (.int (3 : Int32))] [(.int (0 : Int32)), (.int (0 : Int32))])) _
    refine XS.ior X1.here hx rfl (hb hby own_d2_39) rfl ?_
    show Steps p.tables e below (T1.setTop (mkF m 40 #[.val (.ref r1), .val (.int q0), .val (.int (0 : Int32)), .val (.ref r1_c), .val (.int (2 : Int32)), .val (.int (1 : Int32)), .val (.int (3 : Int32))] [(.int ((0 : Int32) ||| (0 : Int32)))])) _
    rw [show ((0 : Int32) ||| (0 : Int32)) = (0 : Int32) from by decide]
    show Steps p.tables e below (T1.setTop (mkF m 40 #[.val (.ref r1), .val (.int q0), .val (.int (0 : Int32)), .val (.ref r1_c), .val (.int (2 : Int32)), .val (.int (1 : Int32)), .val (.int (3 : Int32))] [(.int (0 : Int32))])) _
    refine XS.istoreN X1.here hx rfl (hb hby own_d2_40) rfl (l' := #[.val (.ref r1), .val (.int q0), .val (.int (0 : Int32)), .val (.ref r1_c), .val (.int (2 : Int32)), .val (.int (1 : Int32)), .val (.int (3 : Int32))]) rfl ?_
    show Steps p.tables e below (T1.setTop (mkF m 41 #[.val (.ref r1), .val (.int q0), .val (.int (0 : Int32)), .val (.ref r1_c), .val (.int (2 : Int32)), .val (.int (1 : Int32)), .val (.int (3 : Int32))] [])) _
    refine XS.iinc X1.here hx rfl (hb hby own_d2_41) rfl (l' := #[.val (.ref r1), .val (.int q0), .val (.int (0 : Int32)), .val (.ref r1_c), .val (.int (2 : Int32)), .val (.int ((1 : Int32) + (1 : Int32))), .val (.int (3 : Int32))]) rfl ?_
    show Steps p.tables e below (T1.setTop (mkF m 44 #[.val (.ref r1), .val (.int q0), .val (.int (0 : Int32)), .val (.ref r1_c), .val (.int (2 : Int32)), .val (.int ((1 : Int32) + (1 : Int32))), .val (.int (3 : Int32))] [])) _
    rw [show ((1 : Int32) + (1 : Int32)) = (2 : Int32) from by decide]
    show Steps p.tables e below (T1.setTop (mkF m 44 #[.val (.ref r1), .val (.int q0), .val (.int (0 : Int32)), .val (.ref r1_c), .val (.int (2 : Int32)), .val (.int (2 : Int32)), .val (.int (3 : Int32))] [])) _
    refine XS.goto X1.here hx rfl (pc0 := 44) (pc' := 14) rfl (hb hby own_d2_44) (by decide) (by decide) ?_
    show Steps p.tables e below (T1.setTop (mkF m 14 #[.val (.ref r1), .val (.int q0), .val (.int (0 : Int32)), .val (.ref r1_c), .val (.int (2 : Int32)), .val (.int (2 : Int32)), .val (.int (3 : Int32))] [])) _
    refine XS.iload X1.here hx rfl (hb hby own_d2_14) rfl ?_
    show Steps p.tables e below (T1.setTop (mkF m 16 #[.val (.ref r1), .val (.int q0), .val (.int (0 : Int32)), .val (.ref r1_c), .val (.int (2 : Int32)), .val (.int (2 : Int32)), .val (.int (3 : Int32))] [(.int (2 : Int32))])) _
    refine XS.iload X1.here hx rfl (hb hby own_d2_16) rfl ?_
    show Steps p.tables e below (T1.setTop (mkF m 18 #[.val (.ref r1), .val (.int q0), .val (.int (0 : Int32)), .val (.ref r1_c), .val (.int (2 : Int32)), .val (.int (2 : Int32)), .val (.int (3 : Int32))] [(.int (2 : Int32)), (.int (2 : Int32))])) _
    refine XS.icmpYes X1.here hx rfl (pc0 := 18) (pc' := 47) rfl (hb hby own_d2_18) rfl (flt (by decide : ¬ ((2 : Int32) < (2 : Int32)))).2.1 (by decide) (by decide) ?_
    show Steps p.tables e below (T1.setTop (mkF m 47 #[.val (.ref r1), .val (.int q0), .val (.int (0 : Int32)), .val (.ref r1_c), .val (.int (2 : Int32)), .val (.int (2 : Int32)), .val (.int (3 : Int32))] [])) _
    refine XS.iloadN X1.here hx rfl (hb hby own_d2_47) rfl ?_
    show Steps p.tables e below (T1.setTop (mkF m 48 #[.val (.ref r1), .val (.int q0), .val (.int (0 : Int32)), .val (.ref r1_c), .val (.int (2 : Int32)), .val (.int (2 : Int32)), .val (.int (3 : Int32))] [(.int (0 : Int32))])) _
    exact retN X1 hx (t := .boolean) Bd.returns (by simp) (hb hby own_d2_48) hr
  · exact ⟨rfl, N0, e1⟩
theorem own_d3_33 : decode method_3_code 33 = .ok (.iconst 0, 1) := by decide +kernel
set_option maxRecDepth 65536 in
set_option maxHeartbeats 40000000 in
theorem own_r3_19 (l : Launch) (Z : State) (a0 : Array Value) (hw : ∀ d ∈ tables_1, d.before a0 Z = true) (ws : List Jvm.Cond) (r0 : Addr) (r1 : Addr) (r2 : Addr) (r3 : Addr) (r4 : Addr) (r5 : Addr) (r6 : Addr) (r7 : Addr) (r8 : Addr) (r0_c : Addr) (cl_r0_c : Cell) (r1_c : Addr) (cl_r1_c : Cell) (r2_c : Addr) (cl_r2_c : Cell) (r3_c : Addr) (cl_r3_c : Cell) (r4_c : Addr) (cl_r4_c : Cell) (r5_c : Addr) (cl_r5_c : Cell) (r6_c : Addr) (cl_r6_c : Cell) (r7_c : Addr) (cl_r7_c : Cell) (r8_c : Addr) (cl_r8_c : Cell) (h0 : Heap) (n0 : Nat) (Z0 : n0 ≤ h0.size) (F : own_W Z h0 r0 r1 r2 r3 r4 r5 r6 r7 r8 r0_c cl_r0_c r1_c cl_r1_c r2_c cl_r2_c r3_c cl_r3_c r4_c cl_r4_c r5_c cl_r5_c r6_c cl_r6_c r7_c cl_r7_c r8_c cl_r8_c) (q0 : Int32) (h0' : ¬ (q0 = (0 : Int32))) (h3 : ¬ (q0 = (3 : Int32))) :
    MetFree l (⟨"com/example/urbana/urbana/protocol/CommandTakesPinLaw", "expected", "(II)Z"⟩ : MethodName) (head1 (Jvm.Cond.code (⟨"com/example/urbana/urbana/protocol/CommandTakesPinLaw", "expected", "(II)Z"⟩ : MethodName) method_3_code 2 (some .boolean) :: ws) ({ frames := 0, cells := 0, slots := 0, locals := 0 } : Room)) (fun a U => a = #[(.int (1 : Int32)), (.int q0)] ∧ Z.Warmed39 U.vm ∧ U.heap = h0) (fun _ _ _ _ _ => True) (fun _ U o U' => ∃ v L, o = .returned v ∧ own_Q (.int (0 : Int32)) h0 n0 v U'.heap L ∧ FrameEnd U o U' L ({ frames := 0, cells := 0, slots := 0, locals := 0 } : Room).cells ({ frames := 0, cells := 0, slots := 0, locals := 0 } : Room).slots) := by
  obtain ⟨S_r0, E_r0, S_r1, E_r1, S_r2, E_r2, S_r3, E_r3, S_r4, E_r4, S_r5, E_r5, S_r6, E_r6, S_r7, E_r7, S_r8, E_r8, F_r0_counts, Ar_r0_c, F_r1_counts, Ar_r1_c, F_r2_counts, Ar_r2_c, F_r3_counts, Ar_r3_c, F_r4_counts, Ar_r4_c, F_r5_counts, Ar_r5_c, F_r6_counts, Ar_r6_c, F_r7_counts, Ar_r7_c, F_r8_counts, Ar_r8_c, Sz_r0_c, El_r0_c_0, Sz_r1_c, El_r1_c_0, El_r1_c_1, Sz_r2_c, El_r2_c_0, Sz_r3_c, Sz_r4_c, Sz_r5_c, Sz_r6_c, Sz_r7_c, Sz_r8_c⟩ := id F
  refine MetFree.of_bodySF (plainFor_of_name own_pn_CommandTakesPinLaw) hisR ?_
  intro p e s m args below meth c s₁ Bd hml0 hP hK
  obtain ⟨rfl, hZ, hh⟩ := hP
  have hx := Bd.exec
  have hby := Bd.bytes
  have hml : c.maxLocals = 2 := hml0
  have hown : s.vm.findClass "com/example/urbana/urbana/protocol/CommandTakesPinLaw" = some m.cls := findClass_of_methodNamed Bd.named
  have X0 : Stand p l e ({ frames := 0, cells := 0, slots := 0, locals := 0 } : Room) s m #[(.int (1 : Int32)), (.int q0)] below meth c s₁ [] 0 0 := Stand.of_body Bd
  have e0 : s₁.heap = h0 := by rw [← hh, Bd.state]; rfl
  have N0 := Fr.nil n0
  have pre0 : ∀ t, Steps p.tables e below (s₁.setTop (mkF m 0 #[.val (.int (1 : Int32)), .val (.int q0)] [])) t → Steps p.tables e below (s₁.setTop (entryFrame m #[(.int (1 : Int32)), (.int q0)] 2)) t := fun t k => castTop (own_ef3_II m (1 : Int32) q0) k
  obtain ⟨fs, hr, hrun, hended, hW, hsame⟩ := X0.leave (v := some (.int (0 : Int32))) (fun h => by rw [Bd.returns] at h; cases h)
  refine ⟨_, _, pre0 _ ?_, hrun, hended, _, _, rfl, ?_, ⟨_, rfl⟩, hW, hsame.mono (by decide) (by decide)⟩
  · show Steps p.tables e below (s₁.setTop (mkF m 0 #[.val (.int (1 : Int32)), .val (.int q0)] [])) _
    refine XS.iloadN X0.here hx rfl (hb hby own_d3_0) rfl ?_
    show Steps p.tables e below (s₁.setTop (mkF m 1 #[.val (.int (1 : Int32)), .val (.int q0)] [(.int (1 : Int32))])) _
    refine XS.ifYes X0.here hx rfl (pc0 := 1) (pc' := 15) rfl (hb hby own_d3_1) rfl ((if0 _ _).trans (feq (by decide : ¬ ((1 : Int32) = (0 : Int32)))).2) (by decide) (by decide) ?_
    show Steps p.tables e below (s₁.setTop (mkF m 15 #[.val (.int (1 : Int32)), .val (.int q0)] [])) _
    refine XS.iloadN X0.here hx rfl (hb hby own_d3_15) rfl ?_
    show Steps p.tables e below (s₁.setTop (mkF m 16 #[.val (.int (1 : Int32)), .val (.int q0)] [(.int (1 : Int32))])) _
    refine XS.iconst X0.here hx rfl (hb hby own_d3_16) ?_
    show Steps p.tables e below (s₁.setTop (mkF m 17 #[.val (.int (1 : Int32)), .val (.int q0)] [(.int (1 : Int32)), (.int (1 : Int32))])) _
    refine XS.icmpNo X0.here hx rfl (hb hby own_d3_17) rfl (teq (by decide : (1 : Int32) = (1 : Int32))).2 ?_
    show Steps p.tables e below (s₁.setTop (mkF m 20 #[.val (.int (1 : Int32)), .val (.int q0)] [])) _
    refine XS.iloadN X0.here hx rfl (hb hby own_d3_20) rfl ?_
    show Steps p.tables e below (s₁.setTop (mkF m 21 #[.val (.int (1 : Int32)), .val (.int q0)] [(.int q0)])) _
    refine XS.ifNo X0.here hx rfl (hb hby own_d3_21) rfl ((if0 _ _).trans (feq (h0' : ¬ (q0 = (0 : Int32)))).1) ?_
    show Steps p.tables e below (s₁.setTop (mkF m 24 #[.val (.int (1 : Int32)), .val (.int q0)] [])) _
    refine XS.iloadN X0.here hx rfl (hb hby own_d3_24) rfl ?_
    show Steps p.tables e below (s₁.setTop (mkF m 25 #[.val (.int (1 : Int32)), .val (.int q0)] [(.int q0)])) _
    refine XS.iconst X0.here hx rfl (hb hby own_d3_25) ?_
    show Steps p.tables e below (s₁.setTop (mkF m 26 #[.val (.int (1 : Int32)), .val (.int q0)] [(.int (3 : Int32)), (.int q0)])) _
    refine XS.icmpYes X0.here hx rfl (pc0 := 26) (pc' := 33) rfl (hb hby own_d3_26) rfl (feq (h3 : ¬ (q0 = (3 : Int32)))).2 (by decide) (by decide) ?_
    show Steps p.tables e below (s₁.setTop (mkF m 33 #[.val (.int (1 : Int32)), .val (.int q0)] [])) _
    refine XS.iconst X0.here hx rfl (hb hby own_d3_33) ?_
    show Steps p.tables e below (s₁.setTop (mkF m 34 #[.val (.int (1 : Int32)), .val (.int q0)] [(.int (0 : Int32))])) _
    exact retN X0 hx (t := .boolean) Bd.returns (by simp) (hb hby own_d3_34) hr
  · exact ⟨rfl, N0, e0⟩
set_option maxRecDepth 65536 in
set_option maxHeartbeats 40000000 in
theorem own_r0_k1m0c2 (l : Launch) (Z : State) (a0 : Array Value) (hw : ∀ d ∈ tables_1, d.before a0 Z = true) (ws : List Jvm.Cond) (r0 : Addr) (r1 : Addr) (r2 : Addr) (r3 : Addr) (r4 : Addr) (r5 : Addr) (r6 : Addr) (r7 : Addr) (r8 : Addr) (r0_c : Addr) (cl_r0_c : Cell) (r1_c : Addr) (cl_r1_c : Cell) (r2_c : Addr) (cl_r2_c : Cell) (r3_c : Addr) (cl_r3_c : Cell) (r4_c : Addr) (cl_r4_c : Cell) (r5_c : Addr) (cl_r5_c : Cell) (r6_c : Addr) (cl_r6_c : Cell) (r7_c : Addr) (cl_r7_c : Cell) (r8_c : Addr) (cl_r8_c : Cell) (h0 : Heap) (n0 : Nat) (Z0 : n0 ≤ h0.size) (F : own_W Z h0 r0 r1 r2 r3 r4 r5 r6 r7 r8 r0_c cl_r0_c r1_c cl_r1_c r2_c cl_r2_c r3_c cl_r3_c r4_c cl_r4_c r5_c cl_r5_c r6_c cl_r6_c r7_c cl_r7_c r8_c cl_r8_c) (i0 : Int32) (i1 : Int32) (i2 : Int32) (hk : ((i0 &&& (2147483647 : Int32)) % (9 : Int32)) = (1 : Int32)) (hm : (i1 &&& (1 : Int32)) = (0 : Int32)) (h0' : ¬ (i2 = (0 : Int32))) (h3 : ¬ (i2 = (3 : Int32))) :
    MetFree l x (head1 (Jvm.Cond.code x code maxLocals ret :: ws) room_1) (fun a U => a = #[(.int i0), (.int i1), (.int i2)] ∧ Z.Warmed39 U.vm ∧ U.heap = h0) (fun _ _ _ _ _ => True) (fun _ U o U' => ∃ v L, o = .returned v ∧ own_Q (.int (1 : Int32)) h0 n0 v U'.heap L ∧ FrameEnd U o U' L room_1.cells room_1.slots) := by
  obtain ⟨S_r0, E_r0, S_r1, E_r1, S_r2, E_r2, S_r3, E_r3, S_r4, E_r4, S_r5, E_r5, S_r6, E_r6, S_r7, E_r7, S_r8, E_r8, F_r0_counts, Ar_r0_c, F_r1_counts, Ar_r1_c, F_r2_counts, Ar_r2_c, F_r3_counts, Ar_r3_c, F_r4_counts, Ar_r4_c, F_r5_counts, Ar_r5_c, F_r6_counts, Ar_r6_c, F_r7_counts, Ar_r7_c, F_r8_counts, Ar_r8_c, Sz_r0_c, El_r0_c_0, Sz_r1_c, El_r1_c_0, El_r1_c_1, Sz_r2_c, El_r2_c_0, Sz_r3_c, Sz_r4_c, Sz_r5_c, Sz_r6_c, Sz_r7_c, Sz_r8_c⟩ := id F
  refine MetFree.of_bodySF (plainFor_of_name own_pn_CommandTakesPinLaw) hisR ?_
  intro p e s m args below meth c s₁ Bd hml0 hP hK
  obtain ⟨rfl, hZ, hh⟩ := hP
  have hx := Bd.exec
  have hby := Bd.bytes
  have hml : c.maxLocals = 6 := hml0
  have hown : s.vm.findClass "com/example/urbana/urbana/protocol/CommandTakesPinLaw" = some m.cls := findClass_of_methodNamed Bd.named
  have X0 : Stand p l e room_1 s m #[(.int i0), (.int i1), (.int i2)] below meth c s₁ [] 0 0 := Stand.of_body Bd
  have e0 : s₁.heap = h0 := by rw [← hh, Bd.state]; rfl
  have N0 := Fr.nil n0
  have pre0 : ∀ t, Steps p.tables e below (s₁.setTop (mkF m 0 #[.val (.int i0), .val (.int i1), .val (.int i2), .unset, .unset, .unset] [])) t → Steps p.tables e below (s₁.setTop (entryFrame m #[(.int i0), (.int i1), (.int i2)] maxLocals)) t := fun t k => castTop (own_ef0_III m i0 i1 i2) k
  obtain ⟨_, _, ⟨T1, L1, k1, n1⟩, -, X1, ⟨Lc1, hQ1, l1, y1, z1⟩, st1⟩ := Jvm.LawKit.callS X0 hx (y := (⟨"com/example/urbana/urbana/protocol/CommandTakesPinLaw", "pick", "(I)Lcom/example/urbana/urbana/protocol/Command;"⟩ : MethodName)) hown (mvT hZ (hw _ (List.mem_of_getElem? (i := 1) rfl))) (mvT hZ (hw _ (List.mem_of_getElem? (i := 2) rfl))) (mvT hZ (hw _ (List.mem_of_getElem? (i := 3) rfl))) (mvT hZ (hw _ (List.mem_of_getElem? (i := 4) rfl))) (by decide) (backOf (W := 0) (own_r1_11 l Z a0 hw [] r0 r1 r2 r3 r4 r5 r6 r7 r8 r0_c cl_r0_c r1_c cl_r1_c r2_c cl_r2_c r3_c cl_r3_c r4_c cl_r4_c r5_c cl_r5_c r6_c cl_r6_c r7_c cl_r7_c r8_c cl_r8_c h0 n0 Z0 F ) hZ (hw _ (List.mem_of_getElem? (i := 4) rfl)) (hw _ (List.mem_of_getElem? (i := 3) rfl)) (by decide) (by decide)) (g := (mkF m 29 #[.val (.int i0), .val (.int i1), .val (.int i2), .val (.int (1 : Int32)), .val (.int i2), .unset] [(.int (1 : Int32))])) rfl (by rw [hml]; rfl) (argsL := [(.int (1 : Int32))]) (rest := []) (lenOf own_pd0 rfl) rfl (by show 2 * 0 + _ ≤ _; exact Nat.le_of_eq rfl) (hb hby at_29) (fun _ _ => ⟨rfl, e0, (by decide : 0 + 0 ≤ _), (by decide : 0 + 0 ≤ _)⟩)
  dsimp only [Pt.U, Pt.locs, Pt.cells, Pt.slots] at X1 l1 y1 z1 st1 hQ1
  subst l1 y1 z1
  obtain ⟨rfl, N1q, e1⟩ := hQ1
  have N1 := Fr.app N0 N1q
  obtain ⟨cq2, kq2, q2a, q2b, q2c⟩ := isOf hZ e1 E_r1
  obtain ⟨_, _, ⟨T2, L2, k2, n2⟩, -, X2, ⟨Lc2, hQ2, l2, y2, z2⟩, st2⟩ := X1.virtualBack hx (y := (⟨"com/example/urbana/urbana/protocol/Command", "takes", "(I)Z"⟩ : MethodName)) (z := (⟨"com/example/urbana/urbana/protocol/Command", "takes", "(I)Z"⟩ : MethodName)) hown (mvT hZ (hw _ (List.mem_of_getElem? (i := 8) rfl))) (mvT hZ (hw _ (List.mem_of_getElem? (i := 9) rfl))) (notFace_of_selects (args := #[]) (mvT hZ (hw _ (List.mem_of_getElem? (i := 11) rfl)))) (mvT hZ (hw _ (List.mem_of_getElem? (i := 11) rfl))) (mvT hZ (hw _ (List.mem_of_getElem? (i := 10) rfl))) (by decide) (backOf (W := 0) (own_r2_18 l Z a0 hw [] r0 r1 r2 r3 r4 r5 r6 r7 r8 r0_c cl_r0_c r1_c cl_r1_c r2_c cl_r2_c r3_c cl_r3_c r4_c cl_r4_c r5_c cl_r5_c r6_c cl_r6_c r7_c cl_r7_c r8_c cl_r8_c h0 n0 Z0 F i2 h0' h3) hZ (hw _ (List.mem_of_getElem? (i := 12) rfl)) (hw _ (List.mem_of_getElem? (i := 6) rfl)) (by decide) (by decide)) q2a q2c (g := (mkF m 38 #[.val (.int i0), .val (.int i1), .val (.int i2), .val (.int (1 : Int32)), .val (.int i2), .val (.ref r1)] [(.int i2), (.ref r1)])) rfl (by rw [hml]; rfl) (Steps.refl _) (argsL := [(.int i2)]) (rest := []) (lenOf own_pd1 rfl) rfl (by show 2 * 0 + _ ≤ _; exact Nat.le_of_eq rfl) (hb hby at_38) (fun _ _ => ⟨rfl, e1, (by decide : 0 + 0 ≤ _), (by decide : 0 + 0 ≤ _)⟩)
  dsimp only [Pt.U, Pt.locs, Pt.cells, Pt.slots] at X2 l2 y2 z2 st2 hQ2
  subst l2 y2 z2
  obtain ⟨rfl, N2q, e2⟩ := hQ2
  have N2 := Fr.app N1 N2q
  obtain ⟨_, _, ⟨T3, L3, k3, n3⟩, -, X3, ⟨Lc3, hQ3, l3, y3, z3⟩, st3⟩ := Jvm.LawKit.callS X2 hx (y := (⟨"com/example/urbana/urbana/protocol/CommandTakesPinLaw", "expected", "(II)Z"⟩ : MethodName)) hown (mvT hZ (hw _ (List.mem_of_getElem? (i := 15) rfl))) (mvT hZ (hw _ (List.mem_of_getElem? (i := 16) rfl))) (mvT hZ (hw _ (List.mem_of_getElem? (i := 3) rfl))) (mvT hZ (hw _ (List.mem_of_getElem? (i := 17) rfl))) (by decide) (backOf (W := 1) (own_r3_19 l Z a0 hw [] r0 r1 r2 r3 r4 r5 r6 r7 r8 r0_c cl_r0_c r1_c cl_r1_c r2_c cl_r2_c r3_c cl_r3_c r4_c cl_r4_c r5_c cl_r5_c r6_c cl_r6_c r7_c cl_r7_c r8_c cl_r8_c h0 n0 Z0 F i2 h0' h3) hZ (hw _ (List.mem_of_getElem? (i := 17) rfl)) (hw _ (List.mem_of_getElem? (i := 3) rfl)) (by decide) (by decide)) (g := (mkF m 44 #[.val (.int i0), .val (.int i1), .val (.int i2), .val (.int (1 : Int32)), .val (.int i2), .val (.ref r1)] [(.int i2), (.int (1 : Int32)), (.int (0 : Int32))])) rfl (by rw [hml]; rfl) (argsL := [(.int (1 : Int32)), (.int i2)]) (rest := [(.int (0 : Int32))]) (lenOf own_pd2 rfl) rfl (by show 2 * 0 + _ ≤ _; exact Nat.le_of_eq rfl) (hb hby at_44) (fun _ _ => ⟨rfl, e2, (by decide : 0 + 0 ≤ _), (by decide : 0 + 0 ≤ _)⟩)
  dsimp only [Pt.U, Pt.locs, Pt.cells, Pt.slots] at X3 l3 y3 z3 st3 hQ3
  subst l3 y3 z3
  obtain ⟨rfl, N3q, e3⟩ := hQ3
  have N3 := Fr.app N2 N3q
  obtain ⟨fs, hr, hrun, hended, hW, hsame⟩ := X3.leave (v := some (.int (1 : Int32))) (fun h => by rw [Bd.returns] at h; cases h)
  refine ⟨_, _, pre0 _ ?_, hrun, hended, _, _, rfl, ?_, ⟨_, rfl⟩, hW, hsame.mono (by decide) (by decide)⟩
  · show Steps p.tables e below (s₁.setTop (mkF m 0 #[.val (.int i0), .val (.int i1), .val (.int i2), .unset, .unset, .unset] [])) _
    refine XS.iloadN X0.here hx rfl (hb hby at_0) rfl ?_
    show Steps p.tables e below (s₁.setTop (mkF m 1 #[.val (.int i0), .val (.int i1), .val (.int i2), .unset, .unset, .unset] [(.int i0)])) _
    refine X0.ldcInt hx hown (mvT hZ (hw _ (List.mem_of_getElem? (i := 0) rfl))) (g := (mkF m 1 #[.val (.int i0), .val (.int i1), .val (.int i2), .unset, .unset, .unset] [(.int i0)])) rfl (hb hby at_1) _ ?_
    show Steps p.tables e below (s₁.setTop (mkF m 3 #[.val (.int i0), .val (.int i1), .val (.int i2), .unset, .unset, .unset] [(.int (2147483647 : Int32)), (.int i0)])) _
    refine XS.iand X0.here hx rfl (hb hby at_3) rfl ?_
    show Steps p.tables e below (s₁.setTop (mkF m 4 #[.val (.int i0), .val (.int i1), .val (.int i2), .unset, .unset, .unset] [(.int (i0 &&& (2147483647 : Int32)))])) _
    refine XS.bipush X0.here hx rfl (hb hby at_4) ?_
    show Steps p.tables e below (s₁.setTop (mkF m 6 #[.val (.int i0), .val (.int i1), .val (.int i2), .unset, .unset, .unset] [(.int (9 : Int32)), (.int (i0 &&& (2147483647 : Int32)))])) _
    refine iremM (g := (mkF m 6 #[.val (.int i0), .val (.int i1), .val (.int i2), .unset, .unset, .unset] [(.int (9 : Int32)), (.int (i0 &&& (2147483647 : Int32)))])) X0 hx rfl (hb hby at_6) rfl (by decide) ?_
    show Steps p.tables e below (s₁.setTop (mkF m 7 #[.val (.int i0), .val (.int i1), .val (.int i2), .unset, .unset, .unset] [(.int ((i0 &&& (2147483647 : Int32)) % (9 : Int32)))])) _
    rw [hk]
    show Steps p.tables e below (s₁.setTop (mkF m 7 #[.val (.int i0), .val (.int i1), .val (.int i2), .unset, .unset, .unset] [(.int (1 : Int32))])) _
    refine XS.istoreN X0.here hx rfl (hb hby at_7) rfl (l' := #[.val (.int i0), .val (.int i1), .val (.int i2), .val (.int (1 : Int32)), .unset, .unset]) rfl ?_
    show Steps p.tables e below (s₁.setTop (mkF m 8 #[.val (.int i0), .val (.int i1), .val (.int i2), .val (.int (1 : Int32)), .unset, .unset] [])) _
    refine XS.iloadN X0.here hx rfl (hb hby at_8) rfl ?_
    show Steps p.tables e below (s₁.setTop (mkF m 9 #[.val (.int i0), .val (.int i1), .val (.int i2), .val (.int (1 : Int32)), .unset, .unset] [(.int i1)])) _
    refine XS.iconst X0.here hx rfl (hb hby at_9) ?_
    show Steps p.tables e below (s₁.setTop (mkF m 10 #[.val (.int i0), .val (.int i1), .val (.int i2), .val (.int (1 : Int32)), .unset, .unset] [(.int (1 : Int32)), (.int i1)])) _
    refine XS.iand X0.here hx rfl (hb hby at_10) rfl ?_
    show Steps p.tables e below (s₁.setTop (mkF m 11 #[.val (.int i0), .val (.int i1), .val (.int i2), .val (.int (1 : Int32)), .unset, .unset] [(.int (i1 &&& (1 : Int32)))])) _
    rw [hm]
    show Steps p.tables e below (s₁.setTop (mkF m 11 #[.val (.int i0), .val (.int i1), .val (.int i2), .val (.int (1 : Int32)), .unset, .unset] [(.int (0 : Int32))])) _
    refine XS.ifYes X0.here hx rfl (pc0 := 11) (pc' := 25) rfl (hb hby at_11) rfl ((if0 _ _).trans (teq (by decide : (0 : Int32) = (0 : Int32))).1) (by decide) (by decide) ?_
    show Steps p.tables e below (s₁.setTop (mkF m 25 #[.val (.int i0), .val (.int i1), .val (.int i2), .val (.int (1 : Int32)), .unset, .unset] [])) _
    refine XS.iloadN X0.here hx rfl (hb hby at_25) rfl ?_
    show Steps p.tables e below (s₁.setTop (mkF m 26 #[.val (.int i0), .val (.int i1), .val (.int i2), .val (.int (1 : Int32)), .unset, .unset] [(.int i2)])) _
    refine XS.istore X0.here hx rfl (hb hby at_26) rfl (l' := #[.val (.int i0), .val (.int i1), .val (.int i2), .val (.int (1 : Int32)), .val (.int i2), .unset]) rfl ?_
    show Steps p.tables e below (s₁.setTop (mkF m 28 #[.val (.int i0), .val (.int i1), .val (.int i2), .val (.int (1 : Int32)), .val (.int i2), .unset] [])) _
    refine XS.iloadN X0.here hx rfl (hb hby at_28) rfl ?_
    show Steps p.tables e below (s₁.setTop (mkF m 29 #[.val (.int i0), .val (.int i1), .val (.int i2), .val (.int (1 : Int32)), .val (.int i2), .unset] [(.int (1 : Int32))])) _
    refine st1 _ ?_
    show Steps p.tables e below (T1.setTop (mkF m 32 #[.val (.int i0), .val (.int i1), .val (.int i2), .val (.int (1 : Int32)), .val (.int i2), .unset] [(.ref r1)])) _
    refine XS.astore X1.here hx rfl (hb hby at_32) rfl rfl (l' := #[.val (.int i0), .val (.int i1), .val (.int i2), .val (.int (1 : Int32)), .val (.int i2), .val (.ref r1)]) rfl ?_
    show Steps p.tables e below (T1.setTop (mkF m 34 #[.val (.int i0), .val (.int i1), .val (.int i2), .val (.int (1 : Int32)), .val (.int i2), .val (.ref r1)] [])) _
    refine XS.aload X1.here hx rfl (hb hby at_34) rfl rfl ?_
    show Steps p.tables e below (T1.setTop (mkF m 36 #[.val (.int i0), .val (.int i1), .val (.int i2), .val (.int (1 : Int32)), .val (.int i2), .val (.ref r1)] [(.ref r1)])) _
    refine XS.iload X1.here hx rfl (hb hby at_36) rfl ?_
    show Steps p.tables e below (T1.setTop (mkF m 38 #[.val (.int i0), .val (.int i1), .val (.int i2), .val (.int (1 : Int32)), .val (.int i2), .val (.ref r1)] [(.int i2), (.ref r1)])) _
    refine st2.trans ?_
    show Steps p.tables e below (T2.setTop (mkF m 41 #[.val (.int i0), .val (.int i1), .val (.int i2), .val (.int (1 : Int32)), .val (.int i2), .val (.ref r1)] [(.int (0 : Int32))])) _
    refine XS.iloadN X2.here hx rfl (hb hby at_41) rfl ?_
    show Steps p.tables e below (T2.setTop (mkF m 42 #[.val (.int i0), .val (.int i1), .val (.int i2), .val (.int (1 : Int32)), .val (.int i2), .val (.ref r1)] [(.int (1 : Int32)), (.int (0 : Int32))])) _
    refine XS.iload X2.here hx rfl (hb hby at_42) rfl ?_
    show Steps p.tables e below (T2.setTop (mkF m 44 #[.val (.int i0), .val (.int i1), .val (.int i2), .val (.int (1 : Int32)), .val (.int i2), .val (.ref r1)] [(.int i2), (.int (1 : Int32)), (.int (0 : Int32))])) _
    refine st3 _ ?_
    show Steps p.tables e below (T3.setTop (mkF m 47 #[.val (.int i0), .val (.int i1), .val (.int i2), .val (.int (1 : Int32)), .val (.int i2), .val (.ref r1)] [(.int (0 : Int32)), (.int (0 : Int32))])) _
    refine XS.icmpNo X3.here hx rfl (hb hby at_47) rfl (teq (by decide : (0 : Int32) = (0 : Int32))).2 ?_
    show Steps p.tables e below (T3.setTop (mkF m 50 #[.val (.int i0), .val (.int i1), .val (.int i2), .val (.int (1 : Int32)), .val (.int i2), .val (.ref r1)] [])) _
    refine XS.iconst X3.here hx rfl (hb hby at_50) ?_
    show Steps p.tables e below (T3.setTop (mkF m 51 #[.val (.int i0), .val (.int i1), .val (.int i2), .val (.int (1 : Int32)), .val (.int i2), .val (.ref r1)] [(.int (1 : Int32))])) _
    refine XS.goto X3.here hx rfl (pc0 := 51) (pc' := 55) rfl (hb hby at_51) (by decide) (by decide) ?_
    show Steps p.tables e below (T3.setTop (mkF m 55 #[.val (.int i0), .val (.int i1), .val (.int i2), .val (.int (1 : Int32)), .val (.int i2), .val (.ref r1)] [(.int (1 : Int32))])) _
    exact retN X3 hx (t := .boolean) Bd.returns (by simp) (hb hby at_55) hr
  · exact ⟨rfl, N3, e3⟩
set_option maxRecDepth 65536 in
set_option maxHeartbeats 40000000 in
theorem own_r0_k1m1c0 (l : Launch) (Z : State) (a0 : Array Value) (hw : ∀ d ∈ tables_1, d.before a0 Z = true) (ws : List Jvm.Cond) (r0 : Addr) (r1 : Addr) (r2 : Addr) (r3 : Addr) (r4 : Addr) (r5 : Addr) (r6 : Addr) (r7 : Addr) (r8 : Addr) (r0_c : Addr) (cl_r0_c : Cell) (r1_c : Addr) (cl_r1_c : Cell) (r2_c : Addr) (cl_r2_c : Cell) (r3_c : Addr) (cl_r3_c : Cell) (r4_c : Addr) (cl_r4_c : Cell) (r5_c : Addr) (cl_r5_c : Cell) (r6_c : Addr) (cl_r6_c : Cell) (r7_c : Addr) (cl_r7_c : Cell) (r8_c : Addr) (cl_r8_c : Cell) (h0 : Heap) (n0 : Nat) (Z0 : n0 ≤ h0.size) (F : own_W Z h0 r0 r1 r2 r3 r4 r5 r6 r7 r8 r0_c cl_r0_c r1_c cl_r1_c r2_c cl_r2_c r3_c cl_r3_c r4_c cl_r4_c r5_c cl_r5_c r6_c cl_r6_c r7_c cl_r7_c r8_c cl_r8_c) (i0 : Int32) (i1 : Int32) (i2 : Int32) (hk : ((i0 &&& (2147483647 : Int32)) % (9 : Int32)) = (1 : Int32)) (hm : (i1 &&& (1 : Int32)) = (1 : Int32)) (h0' : (((i1 >>> ((1 : Int32) &&& 31)) &&& (7 : Int32)) - (2 : Int32)) = (0 : Int32)) (h3 : ¬ ((((i1 >>> ((1 : Int32) &&& 31)) &&& (7 : Int32)) - (2 : Int32)) = (3 : Int32))) :
    MetFree l x (head1 (Jvm.Cond.code x code maxLocals ret :: ws) room_1) (fun a U => a = #[(.int i0), (.int i1), (.int i2)] ∧ Z.Warmed39 U.vm ∧ U.heap = h0) (fun _ _ _ _ _ => True) (fun _ U o U' => ∃ v L, o = .returned v ∧ own_Q (.int (1 : Int32)) h0 n0 v U'.heap L ∧ FrameEnd U o U' L room_1.cells room_1.slots) := by
  obtain ⟨S_r0, E_r0, S_r1, E_r1, S_r2, E_r2, S_r3, E_r3, S_r4, E_r4, S_r5, E_r5, S_r6, E_r6, S_r7, E_r7, S_r8, E_r8, F_r0_counts, Ar_r0_c, F_r1_counts, Ar_r1_c, F_r2_counts, Ar_r2_c, F_r3_counts, Ar_r3_c, F_r4_counts, Ar_r4_c, F_r5_counts, Ar_r5_c, F_r6_counts, Ar_r6_c, F_r7_counts, Ar_r7_c, F_r8_counts, Ar_r8_c, Sz_r0_c, El_r0_c_0, Sz_r1_c, El_r1_c_0, El_r1_c_1, Sz_r2_c, El_r2_c_0, Sz_r3_c, Sz_r4_c, Sz_r5_c, Sz_r6_c, Sz_r7_c, Sz_r8_c⟩ := id F
  refine MetFree.of_bodySF (plainFor_of_name own_pn_CommandTakesPinLaw) hisR ?_
  intro p e s m args below meth c s₁ Bd hml0 hP hK
  obtain ⟨rfl, hZ, hh⟩ := hP
  have hx := Bd.exec
  have hby := Bd.bytes
  have hml : c.maxLocals = 6 := hml0
  have hown : s.vm.findClass "com/example/urbana/urbana/protocol/CommandTakesPinLaw" = some m.cls := findClass_of_methodNamed Bd.named
  have X0 : Stand p l e room_1 s m #[(.int i0), (.int i1), (.int i2)] below meth c s₁ [] 0 0 := Stand.of_body Bd
  have e0 : s₁.heap = h0 := by rw [← hh, Bd.state]; rfl
  have N0 := Fr.nil n0
  have pre0 : ∀ t, Steps p.tables e below (s₁.setTop (mkF m 0 #[.val (.int i0), .val (.int i1), .val (.int i2), .unset, .unset, .unset] [])) t → Steps p.tables e below (s₁.setTop (entryFrame m #[(.int i0), (.int i1), (.int i2)] maxLocals)) t := fun t k => castTop (own_ef0_III m i0 i1 i2) k
  obtain ⟨_, _, ⟨T1, L1, k1, n1⟩, -, X1, ⟨Lc1, hQ1, l1, y1, z1⟩, st1⟩ := Jvm.LawKit.callS X0 hx (y := (⟨"com/example/urbana/urbana/protocol/CommandTakesPinLaw", "pick", "(I)Lcom/example/urbana/urbana/protocol/Command;"⟩ : MethodName)) hown (mvT hZ (hw _ (List.mem_of_getElem? (i := 1) rfl))) (mvT hZ (hw _ (List.mem_of_getElem? (i := 2) rfl))) (mvT hZ (hw _ (List.mem_of_getElem? (i := 3) rfl))) (mvT hZ (hw _ (List.mem_of_getElem? (i := 4) rfl))) (by decide) (backOf (W := 0) (own_r1_11 l Z a0 hw [] r0 r1 r2 r3 r4 r5 r6 r7 r8 r0_c cl_r0_c r1_c cl_r1_c r2_c cl_r2_c r3_c cl_r3_c r4_c cl_r4_c r5_c cl_r5_c r6_c cl_r6_c r7_c cl_r7_c r8_c cl_r8_c h0 n0 Z0 F ) hZ (hw _ (List.mem_of_getElem? (i := 4) rfl)) (hw _ (List.mem_of_getElem? (i := 3) rfl)) (by decide) (by decide)) (g := (mkF m 29 #[.val (.int i0), .val (.int i1), .val (.int i2), .val (.int (1 : Int32)), .val (.int (((i1 >>> ((1 : Int32) &&& 31)) &&& (7 : Int32)) - (2 : Int32))), .unset] [(.int (1 : Int32))])) rfl (by rw [hml]; rfl) (argsL := [(.int (1 : Int32))]) (rest := []) (lenOf own_pd0 rfl) rfl (by show 2 * 0 + _ ≤ _; exact Nat.le_of_eq rfl) (hb hby at_29) (fun _ _ => ⟨rfl, e0, (by decide : 0 + 0 ≤ _), (by decide : 0 + 0 ≤ _)⟩)
  dsimp only [Pt.U, Pt.locs, Pt.cells, Pt.slots] at X1 l1 y1 z1 st1 hQ1
  subst l1 y1 z1
  obtain ⟨rfl, N1q, e1⟩ := hQ1
  have N1 := Fr.app N0 N1q
  obtain ⟨cq2, kq2, q2a, q2b, q2c⟩ := isOf hZ e1 E_r1
  obtain ⟨_, _, ⟨T2, L2, k2, n2⟩, -, X2, ⟨Lc2, hQ2, l2, y2, z2⟩, st2⟩ := X1.virtualBack hx (y := (⟨"com/example/urbana/urbana/protocol/Command", "takes", "(I)Z"⟩ : MethodName)) (z := (⟨"com/example/urbana/urbana/protocol/Command", "takes", "(I)Z"⟩ : MethodName)) hown (mvT hZ (hw _ (List.mem_of_getElem? (i := 8) rfl))) (mvT hZ (hw _ (List.mem_of_getElem? (i := 9) rfl))) (notFace_of_selects (args := #[]) (mvT hZ (hw _ (List.mem_of_getElem? (i := 11) rfl)))) (mvT hZ (hw _ (List.mem_of_getElem? (i := 11) rfl))) (mvT hZ (hw _ (List.mem_of_getElem? (i := 10) rfl))) (by decide) (backOf (W := 0) (own_r2_12 l Z a0 hw [] r0 r1 r2 r3 r4 r5 r6 r7 r8 r0_c cl_r0_c r1_c cl_r1_c r2_c cl_r2_c r3_c cl_r3_c r4_c cl_r4_c r5_c cl_r5_c r6_c cl_r6_c r7_c cl_r7_c r8_c cl_r8_c h0 n0 Z0 F (((i1 >>> ((1 : Int32) &&& 31)) &&& (7 : Int32)) - (2 : Int32)) h0' h3) hZ (hw _ (List.mem_of_getElem? (i := 12) rfl)) (hw _ (List.mem_of_getElem? (i := 6) rfl)) (by decide) (by decide)) q2a q2c (g := (mkF m 38 #[.val (.int i0), .val (.int i1), .val (.int i2), .val (.int (1 : Int32)), .val (.int (((i1 >>> ((1 : Int32) &&& 31)) &&& (7 : Int32)) - (2 : Int32))), .val (.ref r1)] [(.int (((i1 >>> ((1 : Int32) &&& 31)) &&& (7 : Int32)) - (2 : Int32))), (.ref r1)])) rfl (by rw [hml]; rfl) (Steps.refl _) (argsL := [(.int (((i1 >>> ((1 : Int32) &&& 31)) &&& (7 : Int32)) - (2 : Int32)))]) (rest := []) (lenOf own_pd1 rfl) rfl (by show 2 * 0 + _ ≤ _; exact Nat.le_of_eq rfl) (hb hby at_38) (fun _ _ => ⟨rfl, e1, (by decide : 0 + 0 ≤ _), (by decide : 0 + 0 ≤ _)⟩)
  dsimp only [Pt.U, Pt.locs, Pt.cells, Pt.slots] at X2 l2 y2 z2 st2 hQ2
  subst l2 y2 z2
  obtain ⟨rfl, N2q, e2⟩ := hQ2
  have N2 := Fr.app N1 N2q
  obtain ⟨_, _, ⟨T3, L3, k3, n3⟩, -, X3, ⟨Lc3, hQ3, l3, y3, z3⟩, st3⟩ := Jvm.LawKit.callS X2 hx (y := (⟨"com/example/urbana/urbana/protocol/CommandTakesPinLaw", "expected", "(II)Z"⟩ : MethodName)) hown (mvT hZ (hw _ (List.mem_of_getElem? (i := 15) rfl))) (mvT hZ (hw _ (List.mem_of_getElem? (i := 16) rfl))) (mvT hZ (hw _ (List.mem_of_getElem? (i := 3) rfl))) (mvT hZ (hw _ (List.mem_of_getElem? (i := 17) rfl))) (by decide) (backOf (W := 1) (own_r3_13 l Z a0 hw [] r0 r1 r2 r3 r4 r5 r6 r7 r8 r0_c cl_r0_c r1_c cl_r1_c r2_c cl_r2_c r3_c cl_r3_c r4_c cl_r4_c r5_c cl_r5_c r6_c cl_r6_c r7_c cl_r7_c r8_c cl_r8_c h0 n0 Z0 F (((i1 >>> ((1 : Int32) &&& 31)) &&& (7 : Int32)) - (2 : Int32)) h0' h3) hZ (hw _ (List.mem_of_getElem? (i := 17) rfl)) (hw _ (List.mem_of_getElem? (i := 3) rfl)) (by decide) (by decide)) (g := (mkF m 44 #[.val (.int i0), .val (.int i1), .val (.int i2), .val (.int (1 : Int32)), .val (.int (((i1 >>> ((1 : Int32) &&& 31)) &&& (7 : Int32)) - (2 : Int32))), .val (.ref r1)] [(.int (((i1 >>> ((1 : Int32) &&& 31)) &&& (7 : Int32)) - (2 : Int32))), (.int (1 : Int32)), (.int (1 : Int32))])) rfl (by rw [hml]; rfl) (argsL := [(.int (1 : Int32)), (.int (((i1 >>> ((1 : Int32) &&& 31)) &&& (7 : Int32)) - (2 : Int32)))]) (rest := [(.int (1 : Int32))]) (lenOf own_pd2 rfl) rfl (by show 2 * 0 + _ ≤ _; exact Nat.le_of_eq rfl) (hb hby at_44) (fun _ _ => ⟨rfl, e2, (by decide : 0 + 0 ≤ _), (by decide : 0 + 0 ≤ _)⟩)
  dsimp only [Pt.U, Pt.locs, Pt.cells, Pt.slots] at X3 l3 y3 z3 st3 hQ3
  subst l3 y3 z3
  obtain ⟨rfl, N3q, e3⟩ := hQ3
  have N3 := Fr.app N2 N3q
  obtain ⟨fs, hr, hrun, hended, hW, hsame⟩ := X3.leave (v := some (.int (1 : Int32))) (fun h => by rw [Bd.returns] at h; cases h)
  refine ⟨_, _, pre0 _ ?_, hrun, hended, _, _, rfl, ?_, ⟨_, rfl⟩, hW, hsame.mono (by decide) (by decide)⟩
  · show Steps p.tables e below (s₁.setTop (mkF m 0 #[.val (.int i0), .val (.int i1), .val (.int i2), .unset, .unset, .unset] [])) _
    refine XS.iloadN X0.here hx rfl (hb hby at_0) rfl ?_
    show Steps p.tables e below (s₁.setTop (mkF m 1 #[.val (.int i0), .val (.int i1), .val (.int i2), .unset, .unset, .unset] [(.int i0)])) _
    refine X0.ldcInt hx hown (mvT hZ (hw _ (List.mem_of_getElem? (i := 0) rfl))) (g := (mkF m 1 #[.val (.int i0), .val (.int i1), .val (.int i2), .unset, .unset, .unset] [(.int i0)])) rfl (hb hby at_1) _ ?_
    show Steps p.tables e below (s₁.setTop (mkF m 3 #[.val (.int i0), .val (.int i1), .val (.int i2), .unset, .unset, .unset] [(.int (2147483647 : Int32)), (.int i0)])) _
    refine XS.iand X0.here hx rfl (hb hby at_3) rfl ?_
    show Steps p.tables e below (s₁.setTop (mkF m 4 #[.val (.int i0), .val (.int i1), .val (.int i2), .unset, .unset, .unset] [(.int (i0 &&& (2147483647 : Int32)))])) _
    refine XS.bipush X0.here hx rfl (hb hby at_4) ?_
    show Steps p.tables e below (s₁.setTop (mkF m 6 #[.val (.int i0), .val (.int i1), .val (.int i2), .unset, .unset, .unset] [(.int (9 : Int32)), (.int (i0 &&& (2147483647 : Int32)))])) _
    refine iremM (g := (mkF m 6 #[.val (.int i0), .val (.int i1), .val (.int i2), .unset, .unset, .unset] [(.int (9 : Int32)), (.int (i0 &&& (2147483647 : Int32)))])) X0 hx rfl (hb hby at_6) rfl (by decide) ?_
    show Steps p.tables e below (s₁.setTop (mkF m 7 #[.val (.int i0), .val (.int i1), .val (.int i2), .unset, .unset, .unset] [(.int ((i0 &&& (2147483647 : Int32)) % (9 : Int32)))])) _
    rw [hk]
    show Steps p.tables e below (s₁.setTop (mkF m 7 #[.val (.int i0), .val (.int i1), .val (.int i2), .unset, .unset, .unset] [(.int (1 : Int32))])) _
    refine XS.istoreN X0.here hx rfl (hb hby at_7) rfl (l' := #[.val (.int i0), .val (.int i1), .val (.int i2), .val (.int (1 : Int32)), .unset, .unset]) rfl ?_
    show Steps p.tables e below (s₁.setTop (mkF m 8 #[.val (.int i0), .val (.int i1), .val (.int i2), .val (.int (1 : Int32)), .unset, .unset] [])) _
    refine XS.iloadN X0.here hx rfl (hb hby at_8) rfl ?_
    show Steps p.tables e below (s₁.setTop (mkF m 9 #[.val (.int i0), .val (.int i1), .val (.int i2), .val (.int (1 : Int32)), .unset, .unset] [(.int i1)])) _
    refine XS.iconst X0.here hx rfl (hb hby at_9) ?_
    show Steps p.tables e below (s₁.setTop (mkF m 10 #[.val (.int i0), .val (.int i1), .val (.int i2), .val (.int (1 : Int32)), .unset, .unset] [(.int (1 : Int32)), (.int i1)])) _
    refine XS.iand X0.here hx rfl (hb hby at_10) rfl ?_
    show Steps p.tables e below (s₁.setTop (mkF m 11 #[.val (.int i0), .val (.int i1), .val (.int i2), .val (.int (1 : Int32)), .unset, .unset] [(.int (i1 &&& (1 : Int32)))])) _
    rw [hm]
    show Steps p.tables e below (s₁.setTop (mkF m 11 #[.val (.int i0), .val (.int i1), .val (.int i2), .val (.int (1 : Int32)), .unset, .unset] [(.int (1 : Int32))])) _
    refine XS.ifNo X0.here hx rfl (hb hby at_11) rfl ((if0 _ _).trans (feq (by decide : ¬ ((1 : Int32) = (0 : Int32)))).1) ?_
    show Steps p.tables e below (s₁.setTop (mkF m 14 #[.val (.int i0), .val (.int i1), .val (.int i2), .val (.int (1 : Int32)), .unset, .unset] [])) _
    refine XS.iloadN X0.here hx rfl (hb hby at_14) rfl ?_
    show Steps p.tables e below (s₁.setTop (mkF m 15 #[.val (.int i0), .val (.int i1), .val (.int i2), .val (.int (1 : Int32)), .unset, .unset] [(.int i1)])) _
    refine XS.iconst X0.here hx rfl (hb hby at_15) ?_
    show Steps p.tables e below (s₁.setTop (mkF m 16 #[.val (.int i0), .val (.int i1), .val (.int i2), .val (.int (1 : Int32)), .unset, .unset] [(.int (1 : Int32)), (.int i1)])) _
    refine XS.ishr X0.here hx rfl (hb hby at_16) rfl ?_
    show Steps p.tables e below (s₁.setTop (mkF m 17 #[.val (.int i0), .val (.int i1), .val (.int i2), .val (.int (1 : Int32)), .unset, .unset] [(.int (i1 >>> ((1 : Int32) &&& 31)))])) _
    refine XS.bipush X0.here hx rfl (hb hby at_17) ?_
    show Steps p.tables e below (s₁.setTop (mkF m 19 #[.val (.int i0), .val (.int i1), .val (.int i2), .val (.int (1 : Int32)), .unset, .unset] [(.int (7 : Int32)), (.int (i1 >>> ((1 : Int32) &&& 31)))])) _
    refine XS.iand X0.here hx rfl (hb hby at_19) rfl ?_
    show Steps p.tables e below (s₁.setTop (mkF m 20 #[.val (.int i0), .val (.int i1), .val (.int i2), .val (.int (1 : Int32)), .unset, .unset] [(.int ((i1 >>> ((1 : Int32) &&& 31)) &&& (7 : Int32)))])) _
    refine XS.iconst X0.here hx rfl (hb hby at_20) ?_
    show Steps p.tables e below (s₁.setTop (mkF m 21 #[.val (.int i0), .val (.int i1), .val (.int i2), .val (.int (1 : Int32)), .unset, .unset] [(.int (2 : Int32)), (.int ((i1 >>> ((1 : Int32) &&& 31)) &&& (7 : Int32)))])) _
    refine XS.isub X0.here hx rfl (hb hby at_21) rfl ?_
    show Steps p.tables e below (s₁.setTop (mkF m 22 #[.val (.int i0), .val (.int i1), .val (.int i2), .val (.int (1 : Int32)), .unset, .unset] [(.int (((i1 >>> ((1 : Int32) &&& 31)) &&& (7 : Int32)) - (2 : Int32)))])) _
    refine XS.goto X0.here hx rfl (pc0 := 22) (pc' := 26) rfl (hb hby at_22) (by decide) (by decide) ?_
    show Steps p.tables e below (s₁.setTop (mkF m 26 #[.val (.int i0), .val (.int i1), .val (.int i2), .val (.int (1 : Int32)), .unset, .unset] [(.int (((i1 >>> ((1 : Int32) &&& 31)) &&& (7 : Int32)) - (2 : Int32)))])) _
    refine XS.istore X0.here hx rfl (hb hby at_26) rfl (l' := #[.val (.int i0), .val (.int i1), .val (.int i2), .val (.int (1 : Int32)), .val (.int (((i1 >>> ((1 : Int32) &&& 31)) &&& (7 : Int32)) - (2 : Int32))), .unset]) rfl ?_
    show Steps p.tables e below (s₁.setTop (mkF m 28 #[.val (.int i0), .val (.int i1), .val (.int i2), .val (.int (1 : Int32)), .val (.int (((i1 >>> ((1 : Int32) &&& 31)) &&& (7 : Int32)) - (2 : Int32))), .unset] [])) _
    refine XS.iloadN X0.here hx rfl (hb hby at_28) rfl ?_
    show Steps p.tables e below (s₁.setTop (mkF m 29 #[.val (.int i0), .val (.int i1), .val (.int i2), .val (.int (1 : Int32)), .val (.int (((i1 >>> ((1 : Int32) &&& 31)) &&& (7 : Int32)) - (2 : Int32))), .unset] [(.int (1 : Int32))])) _
    refine st1 _ ?_
    show Steps p.tables e below (T1.setTop (mkF m 32 #[.val (.int i0), .val (.int i1), .val (.int i2), .val (.int (1 : Int32)), .val (.int (((i1 >>> ((1 : Int32) &&& 31)) &&& (7 : Int32)) - (2 : Int32))), .unset] [(.ref r1)])) _
    refine XS.astore X1.here hx rfl (hb hby at_32) rfl rfl (l' := #[.val (.int i0), .val (.int i1), .val (.int i2), .val (.int (1 : Int32)), .val (.int (((i1 >>> ((1 : Int32) &&& 31)) &&& (7 : Int32)) - (2 : Int32))), .val (.ref r1)]) rfl ?_
    show Steps p.tables e below (T1.setTop (mkF m 34 #[.val (.int i0), .val (.int i1), .val (.int i2), .val (.int (1 : Int32)), .val (.int (((i1 >>> ((1 : Int32) &&& 31)) &&& (7 : Int32)) - (2 : Int32))), .val (.ref r1)] [])) _
    refine XS.aload X1.here hx rfl (hb hby at_34) rfl rfl ?_
    show Steps p.tables e below (T1.setTop (mkF m 36 #[.val (.int i0), .val (.int i1), .val (.int i2), .val (.int (1 : Int32)), .val (.int (((i1 >>> ((1 : Int32) &&& 31)) &&& (7 : Int32)) - (2 : Int32))), .val (.ref r1)] [(.ref r1)])) _
    refine XS.iload X1.here hx rfl (hb hby at_36) rfl ?_
    show Steps p.tables e below (T1.setTop (mkF m 38 #[.val (.int i0), .val (.int i1), .val (.int i2), .val (.int (1 : Int32)), .val (.int (((i1 >>> ((1 : Int32) &&& 31)) &&& (7 : Int32)) - (2 : Int32))), .val (.ref r1)] [(.int (((i1 >>> ((1 : Int32) &&& 31)) &&& (7 : Int32)) - (2 : Int32))), (.ref r1)])) _
    refine st2.trans ?_
    show Steps p.tables e below (T2.setTop (mkF m 41 #[.val (.int i0), .val (.int i1), .val (.int i2), .val (.int (1 : Int32)), .val (.int (((i1 >>> ((1 : Int32) &&& 31)) &&& (7 : Int32)) - (2 : Int32))), .val (.ref r1)] [(.int (1 : Int32))])) _
    refine XS.iloadN X2.here hx rfl (hb hby at_41) rfl ?_
    show Steps p.tables e below (T2.setTop (mkF m 42 #[.val (.int i0), .val (.int i1), .val (.int i2), .val (.int (1 : Int32)), .val (.int (((i1 >>> ((1 : Int32) &&& 31)) &&& (7 : Int32)) - (2 : Int32))), .val (.ref r1)] [(.int (1 : Int32)), (.int (1 : Int32))])) _
    refine XS.iload X2.here hx rfl (hb hby at_42) rfl ?_
    show Steps p.tables e below (T2.setTop (mkF m 44 #[.val (.int i0), .val (.int i1), .val (.int i2), .val (.int (1 : Int32)), .val (.int (((i1 >>> ((1 : Int32) &&& 31)) &&& (7 : Int32)) - (2 : Int32))), .val (.ref r1)] [(.int (((i1 >>> ((1 : Int32) &&& 31)) &&& (7 : Int32)) - (2 : Int32))), (.int (1 : Int32)), (.int (1 : Int32))])) _
    refine st3 _ ?_
    show Steps p.tables e below (T3.setTop (mkF m 47 #[.val (.int i0), .val (.int i1), .val (.int i2), .val (.int (1 : Int32)), .val (.int (((i1 >>> ((1 : Int32) &&& 31)) &&& (7 : Int32)) - (2 : Int32))), .val (.ref r1)] [(.int (1 : Int32)), (.int (1 : Int32))])) _
    refine XS.icmpNo X3.here hx rfl (hb hby at_47) rfl (teq (by decide : (1 : Int32) = (1 : Int32))).2 ?_
    show Steps p.tables e below (T3.setTop (mkF m 50 #[.val (.int i0), .val (.int i1), .val (.int i2), .val (.int (1 : Int32)), .val (.int (((i1 >>> ((1 : Int32) &&& 31)) &&& (7 : Int32)) - (2 : Int32))), .val (.ref r1)] [])) _
    refine XS.iconst X3.here hx rfl (hb hby at_50) ?_
    show Steps p.tables e below (T3.setTop (mkF m 51 #[.val (.int i0), .val (.int i1), .val (.int i2), .val (.int (1 : Int32)), .val (.int (((i1 >>> ((1 : Int32) &&& 31)) &&& (7 : Int32)) - (2 : Int32))), .val (.ref r1)] [(.int (1 : Int32))])) _
    refine XS.goto X3.here hx rfl (pc0 := 51) (pc' := 55) rfl (hb hby at_51) (by decide) (by decide) ?_
    show Steps p.tables e below (T3.setTop (mkF m 55 #[.val (.int i0), .val (.int i1), .val (.int i2), .val (.int (1 : Int32)), .val (.int (((i1 >>> ((1 : Int32) &&& 31)) &&& (7 : Int32)) - (2 : Int32))), .val (.ref r1)] [(.int (1 : Int32))])) _
    exact retN X3 hx (t := .boolean) Bd.returns (by simp) (hb hby at_55) hr
  · exact ⟨rfl, N3, e3⟩
set_option maxRecDepth 65536 in
set_option maxHeartbeats 40000000 in
theorem own_r0_k1m1c1 (l : Launch) (Z : State) (a0 : Array Value) (hw : ∀ d ∈ tables_1, d.before a0 Z = true) (ws : List Jvm.Cond) (r0 : Addr) (r1 : Addr) (r2 : Addr) (r3 : Addr) (r4 : Addr) (r5 : Addr) (r6 : Addr) (r7 : Addr) (r8 : Addr) (r0_c : Addr) (cl_r0_c : Cell) (r1_c : Addr) (cl_r1_c : Cell) (r2_c : Addr) (cl_r2_c : Cell) (r3_c : Addr) (cl_r3_c : Cell) (r4_c : Addr) (cl_r4_c : Cell) (r5_c : Addr) (cl_r5_c : Cell) (r6_c : Addr) (cl_r6_c : Cell) (r7_c : Addr) (cl_r7_c : Cell) (r8_c : Addr) (cl_r8_c : Cell) (h0 : Heap) (n0 : Nat) (Z0 : n0 ≤ h0.size) (F : own_W Z h0 r0 r1 r2 r3 r4 r5 r6 r7 r8 r0_c cl_r0_c r1_c cl_r1_c r2_c cl_r2_c r3_c cl_r3_c r4_c cl_r4_c r5_c cl_r5_c r6_c cl_r6_c r7_c cl_r7_c r8_c cl_r8_c) (i0 : Int32) (i1 : Int32) (i2 : Int32) (hk : ((i0 &&& (2147483647 : Int32)) % (9 : Int32)) = (1 : Int32)) (hm : (i1 &&& (1 : Int32)) = (1 : Int32)) (h0' : ¬ ((((i1 >>> ((1 : Int32) &&& 31)) &&& (7 : Int32)) - (2 : Int32)) = (0 : Int32))) (h3 : (((i1 >>> ((1 : Int32) &&& 31)) &&& (7 : Int32)) - (2 : Int32)) = (3 : Int32)) :
    MetFree l x (head1 (Jvm.Cond.code x code maxLocals ret :: ws) room_1) (fun a U => a = #[(.int i0), (.int i1), (.int i2)] ∧ Z.Warmed39 U.vm ∧ U.heap = h0) (fun _ _ _ _ _ => True) (fun _ U o U' => ∃ v L, o = .returned v ∧ own_Q (.int (1 : Int32)) h0 n0 v U'.heap L ∧ FrameEnd U o U' L room_1.cells room_1.slots) := by
  obtain ⟨S_r0, E_r0, S_r1, E_r1, S_r2, E_r2, S_r3, E_r3, S_r4, E_r4, S_r5, E_r5, S_r6, E_r6, S_r7, E_r7, S_r8, E_r8, F_r0_counts, Ar_r0_c, F_r1_counts, Ar_r1_c, F_r2_counts, Ar_r2_c, F_r3_counts, Ar_r3_c, F_r4_counts, Ar_r4_c, F_r5_counts, Ar_r5_c, F_r6_counts, Ar_r6_c, F_r7_counts, Ar_r7_c, F_r8_counts, Ar_r8_c, Sz_r0_c, El_r0_c_0, Sz_r1_c, El_r1_c_0, El_r1_c_1, Sz_r2_c, El_r2_c_0, Sz_r3_c, Sz_r4_c, Sz_r5_c, Sz_r6_c, Sz_r7_c, Sz_r8_c⟩ := id F
  refine MetFree.of_bodySF (plainFor_of_name own_pn_CommandTakesPinLaw) hisR ?_
  intro p e s m args below meth c s₁ Bd hml0 hP hK
  obtain ⟨rfl, hZ, hh⟩ := hP
  have hx := Bd.exec
  have hby := Bd.bytes
  have hml : c.maxLocals = 6 := hml0
  have hown : s.vm.findClass "com/example/urbana/urbana/protocol/CommandTakesPinLaw" = some m.cls := findClass_of_methodNamed Bd.named
  have X0 : Stand p l e room_1 s m #[(.int i0), (.int i1), (.int i2)] below meth c s₁ [] 0 0 := Stand.of_body Bd
  have e0 : s₁.heap = h0 := by rw [← hh, Bd.state]; rfl
  have N0 := Fr.nil n0
  have pre0 : ∀ t, Steps p.tables e below (s₁.setTop (mkF m 0 #[.val (.int i0), .val (.int i1), .val (.int i2), .unset, .unset, .unset] [])) t → Steps p.tables e below (s₁.setTop (entryFrame m #[(.int i0), (.int i1), (.int i2)] maxLocals)) t := fun t k => castTop (own_ef0_III m i0 i1 i2) k
  obtain ⟨_, _, ⟨T1, L1, k1, n1⟩, -, X1, ⟨Lc1, hQ1, l1, y1, z1⟩, st1⟩ := Jvm.LawKit.callS X0 hx (y := (⟨"com/example/urbana/urbana/protocol/CommandTakesPinLaw", "pick", "(I)Lcom/example/urbana/urbana/protocol/Command;"⟩ : MethodName)) hown (mvT hZ (hw _ (List.mem_of_getElem? (i := 1) rfl))) (mvT hZ (hw _ (List.mem_of_getElem? (i := 2) rfl))) (mvT hZ (hw _ (List.mem_of_getElem? (i := 3) rfl))) (mvT hZ (hw _ (List.mem_of_getElem? (i := 4) rfl))) (by decide) (backOf (W := 0) (own_r1_11 l Z a0 hw [] r0 r1 r2 r3 r4 r5 r6 r7 r8 r0_c cl_r0_c r1_c cl_r1_c r2_c cl_r2_c r3_c cl_r3_c r4_c cl_r4_c r5_c cl_r5_c r6_c cl_r6_c r7_c cl_r7_c r8_c cl_r8_c h0 n0 Z0 F ) hZ (hw _ (List.mem_of_getElem? (i := 4) rfl)) (hw _ (List.mem_of_getElem? (i := 3) rfl)) (by decide) (by decide)) (g := (mkF m 29 #[.val (.int i0), .val (.int i1), .val (.int i2), .val (.int (1 : Int32)), .val (.int (((i1 >>> ((1 : Int32) &&& 31)) &&& (7 : Int32)) - (2 : Int32))), .unset] [(.int (1 : Int32))])) rfl (by rw [hml]; rfl) (argsL := [(.int (1 : Int32))]) (rest := []) (lenOf own_pd0 rfl) rfl (by show 2 * 0 + _ ≤ _; exact Nat.le_of_eq rfl) (hb hby at_29) (fun _ _ => ⟨rfl, e0, (by decide : 0 + 0 ≤ _), (by decide : 0 + 0 ≤ _)⟩)
  dsimp only [Pt.U, Pt.locs, Pt.cells, Pt.slots] at X1 l1 y1 z1 st1 hQ1
  subst l1 y1 z1
  obtain ⟨rfl, N1q, e1⟩ := hQ1
  have N1 := Fr.app N0 N1q
  obtain ⟨cq2, kq2, q2a, q2b, q2c⟩ := isOf hZ e1 E_r1
  obtain ⟨_, _, ⟨T2, L2, k2, n2⟩, -, X2, ⟨Lc2, hQ2, l2, y2, z2⟩, st2⟩ := X1.virtualBack hx (y := (⟨"com/example/urbana/urbana/protocol/Command", "takes", "(I)Z"⟩ : MethodName)) (z := (⟨"com/example/urbana/urbana/protocol/Command", "takes", "(I)Z"⟩ : MethodName)) hown (mvT hZ (hw _ (List.mem_of_getElem? (i := 8) rfl))) (mvT hZ (hw _ (List.mem_of_getElem? (i := 9) rfl))) (notFace_of_selects (args := #[]) (mvT hZ (hw _ (List.mem_of_getElem? (i := 11) rfl)))) (mvT hZ (hw _ (List.mem_of_getElem? (i := 11) rfl))) (mvT hZ (hw _ (List.mem_of_getElem? (i := 10) rfl))) (by decide) (backOf (W := 0) (own_r2_15 l Z a0 hw [] r0 r1 r2 r3 r4 r5 r6 r7 r8 r0_c cl_r0_c r1_c cl_r1_c r2_c cl_r2_c r3_c cl_r3_c r4_c cl_r4_c r5_c cl_r5_c r6_c cl_r6_c r7_c cl_r7_c r8_c cl_r8_c h0 n0 Z0 F (((i1 >>> ((1 : Int32) &&& 31)) &&& (7 : Int32)) - (2 : Int32)) h0' h3) hZ (hw _ (List.mem_of_getElem? (i := 12) rfl)) (hw _ (List.mem_of_getElem? (i := 6) rfl)) (by decide) (by decide)) q2a q2c (g := (mkF m 38 #[.val (.int i0), .val (.int i1), .val (.int i2), .val (.int (1 : Int32)), .val (.int (((i1 >>> ((1 : Int32) &&& 31)) &&& (7 : Int32)) - (2 : Int32))), .val (.ref r1)] [(.int (((i1 >>> ((1 : Int32) &&& 31)) &&& (7 : Int32)) - (2 : Int32))), (.ref r1)])) rfl (by rw [hml]; rfl) (Steps.refl _) (argsL := [(.int (((i1 >>> ((1 : Int32) &&& 31)) &&& (7 : Int32)) - (2 : Int32)))]) (rest := []) (lenOf own_pd1 rfl) rfl (by show 2 * 0 + _ ≤ _; exact Nat.le_of_eq rfl) (hb hby at_38) (fun _ _ => ⟨rfl, e1, (by decide : 0 + 0 ≤ _), (by decide : 0 + 0 ≤ _)⟩)
  dsimp only [Pt.U, Pt.locs, Pt.cells, Pt.slots] at X2 l2 y2 z2 st2 hQ2
  subst l2 y2 z2
  obtain ⟨rfl, N2q, e2⟩ := hQ2
  have N2 := Fr.app N1 N2q
  obtain ⟨_, _, ⟨T3, L3, k3, n3⟩, -, X3, ⟨Lc3, hQ3, l3, y3, z3⟩, st3⟩ := Jvm.LawKit.callS X2 hx (y := (⟨"com/example/urbana/urbana/protocol/CommandTakesPinLaw", "expected", "(II)Z"⟩ : MethodName)) hown (mvT hZ (hw _ (List.mem_of_getElem? (i := 15) rfl))) (mvT hZ (hw _ (List.mem_of_getElem? (i := 16) rfl))) (mvT hZ (hw _ (List.mem_of_getElem? (i := 3) rfl))) (mvT hZ (hw _ (List.mem_of_getElem? (i := 17) rfl))) (by decide) (backOf (W := 1) (own_r3_16 l Z a0 hw [] r0 r1 r2 r3 r4 r5 r6 r7 r8 r0_c cl_r0_c r1_c cl_r1_c r2_c cl_r2_c r3_c cl_r3_c r4_c cl_r4_c r5_c cl_r5_c r6_c cl_r6_c r7_c cl_r7_c r8_c cl_r8_c h0 n0 Z0 F (((i1 >>> ((1 : Int32) &&& 31)) &&& (7 : Int32)) - (2 : Int32)) h0' h3) hZ (hw _ (List.mem_of_getElem? (i := 17) rfl)) (hw _ (List.mem_of_getElem? (i := 3) rfl)) (by decide) (by decide)) (g := (mkF m 44 #[.val (.int i0), .val (.int i1), .val (.int i2), .val (.int (1 : Int32)), .val (.int (((i1 >>> ((1 : Int32) &&& 31)) &&& (7 : Int32)) - (2 : Int32))), .val (.ref r1)] [(.int (((i1 >>> ((1 : Int32) &&& 31)) &&& (7 : Int32)) - (2 : Int32))), (.int (1 : Int32)), (.int (1 : Int32))])) rfl (by rw [hml]; rfl) (argsL := [(.int (1 : Int32)), (.int (((i1 >>> ((1 : Int32) &&& 31)) &&& (7 : Int32)) - (2 : Int32)))]) (rest := [(.int (1 : Int32))]) (lenOf own_pd2 rfl) rfl (by show 2 * 0 + _ ≤ _; exact Nat.le_of_eq rfl) (hb hby at_44) (fun _ _ => ⟨rfl, e2, (by decide : 0 + 0 ≤ _), (by decide : 0 + 0 ≤ _)⟩)
  dsimp only [Pt.U, Pt.locs, Pt.cells, Pt.slots] at X3 l3 y3 z3 st3 hQ3
  subst l3 y3 z3
  obtain ⟨rfl, N3q, e3⟩ := hQ3
  have N3 := Fr.app N2 N3q
  obtain ⟨fs, hr, hrun, hended, hW, hsame⟩ := X3.leave (v := some (.int (1 : Int32))) (fun h => by rw [Bd.returns] at h; cases h)
  refine ⟨_, _, pre0 _ ?_, hrun, hended, _, _, rfl, ?_, ⟨_, rfl⟩, hW, hsame.mono (by decide) (by decide)⟩
  · show Steps p.tables e below (s₁.setTop (mkF m 0 #[.val (.int i0), .val (.int i1), .val (.int i2), .unset, .unset, .unset] [])) _
    refine XS.iloadN X0.here hx rfl (hb hby at_0) rfl ?_
    show Steps p.tables e below (s₁.setTop (mkF m 1 #[.val (.int i0), .val (.int i1), .val (.int i2), .unset, .unset, .unset] [(.int i0)])) _
    refine X0.ldcInt hx hown (mvT hZ (hw _ (List.mem_of_getElem? (i := 0) rfl))) (g := (mkF m 1 #[.val (.int i0), .val (.int i1), .val (.int i2), .unset, .unset, .unset] [(.int i0)])) rfl (hb hby at_1) _ ?_
    show Steps p.tables e below (s₁.setTop (mkF m 3 #[.val (.int i0), .val (.int i1), .val (.int i2), .unset, .unset, .unset] [(.int (2147483647 : Int32)), (.int i0)])) _
    refine XS.iand X0.here hx rfl (hb hby at_3) rfl ?_
    show Steps p.tables e below (s₁.setTop (mkF m 4 #[.val (.int i0), .val (.int i1), .val (.int i2), .unset, .unset, .unset] [(.int (i0 &&& (2147483647 : Int32)))])) _
    refine XS.bipush X0.here hx rfl (hb hby at_4) ?_
    show Steps p.tables e below (s₁.setTop (mkF m 6 #[.val (.int i0), .val (.int i1), .val (.int i2), .unset, .unset, .unset] [(.int (9 : Int32)), (.int (i0 &&& (2147483647 : Int32)))])) _
    refine iremM (g := (mkF m 6 #[.val (.int i0), .val (.int i1), .val (.int i2), .unset, .unset, .unset] [(.int (9 : Int32)), (.int (i0 &&& (2147483647 : Int32)))])) X0 hx rfl (hb hby at_6) rfl (by decide) ?_
    show Steps p.tables e below (s₁.setTop (mkF m 7 #[.val (.int i0), .val (.int i1), .val (.int i2), .unset, .unset, .unset] [(.int ((i0 &&& (2147483647 : Int32)) % (9 : Int32)))])) _
    rw [hk]
    show Steps p.tables e below (s₁.setTop (mkF m 7 #[.val (.int i0), .val (.int i1), .val (.int i2), .unset, .unset, .unset] [(.int (1 : Int32))])) _
    refine XS.istoreN X0.here hx rfl (hb hby at_7) rfl (l' := #[.val (.int i0), .val (.int i1), .val (.int i2), .val (.int (1 : Int32)), .unset, .unset]) rfl ?_
    show Steps p.tables e below (s₁.setTop (mkF m 8 #[.val (.int i0), .val (.int i1), .val (.int i2), .val (.int (1 : Int32)), .unset, .unset] [])) _
    refine XS.iloadN X0.here hx rfl (hb hby at_8) rfl ?_
    show Steps p.tables e below (s₁.setTop (mkF m 9 #[.val (.int i0), .val (.int i1), .val (.int i2), .val (.int (1 : Int32)), .unset, .unset] [(.int i1)])) _
    refine XS.iconst X0.here hx rfl (hb hby at_9) ?_
    show Steps p.tables e below (s₁.setTop (mkF m 10 #[.val (.int i0), .val (.int i1), .val (.int i2), .val (.int (1 : Int32)), .unset, .unset] [(.int (1 : Int32)), (.int i1)])) _
    refine XS.iand X0.here hx rfl (hb hby at_10) rfl ?_
    show Steps p.tables e below (s₁.setTop (mkF m 11 #[.val (.int i0), .val (.int i1), .val (.int i2), .val (.int (1 : Int32)), .unset, .unset] [(.int (i1 &&& (1 : Int32)))])) _
    rw [hm]
    show Steps p.tables e below (s₁.setTop (mkF m 11 #[.val (.int i0), .val (.int i1), .val (.int i2), .val (.int (1 : Int32)), .unset, .unset] [(.int (1 : Int32))])) _
    refine XS.ifNo X0.here hx rfl (hb hby at_11) rfl ((if0 _ _).trans (feq (by decide : ¬ ((1 : Int32) = (0 : Int32)))).1) ?_
    show Steps p.tables e below (s₁.setTop (mkF m 14 #[.val (.int i0), .val (.int i1), .val (.int i2), .val (.int (1 : Int32)), .unset, .unset] [])) _
    refine XS.iloadN X0.here hx rfl (hb hby at_14) rfl ?_
    show Steps p.tables e below (s₁.setTop (mkF m 15 #[.val (.int i0), .val (.int i1), .val (.int i2), .val (.int (1 : Int32)), .unset, .unset] [(.int i1)])) _
    refine XS.iconst X0.here hx rfl (hb hby at_15) ?_
    show Steps p.tables e below (s₁.setTop (mkF m 16 #[.val (.int i0), .val (.int i1), .val (.int i2), .val (.int (1 : Int32)), .unset, .unset] [(.int (1 : Int32)), (.int i1)])) _
    refine XS.ishr X0.here hx rfl (hb hby at_16) rfl ?_
    show Steps p.tables e below (s₁.setTop (mkF m 17 #[.val (.int i0), .val (.int i1), .val (.int i2), .val (.int (1 : Int32)), .unset, .unset] [(.int (i1 >>> ((1 : Int32) &&& 31)))])) _
    refine XS.bipush X0.here hx rfl (hb hby at_17) ?_
    show Steps p.tables e below (s₁.setTop (mkF m 19 #[.val (.int i0), .val (.int i1), .val (.int i2), .val (.int (1 : Int32)), .unset, .unset] [(.int (7 : Int32)), (.int (i1 >>> ((1 : Int32) &&& 31)))])) _
    refine XS.iand X0.here hx rfl (hb hby at_19) rfl ?_
    show Steps p.tables e below (s₁.setTop (mkF m 20 #[.val (.int i0), .val (.int i1), .val (.int i2), .val (.int (1 : Int32)), .unset, .unset] [(.int ((i1 >>> ((1 : Int32) &&& 31)) &&& (7 : Int32)))])) _
    refine XS.iconst X0.here hx rfl (hb hby at_20) ?_
    show Steps p.tables e below (s₁.setTop (mkF m 21 #[.val (.int i0), .val (.int i1), .val (.int i2), .val (.int (1 : Int32)), .unset, .unset] [(.int (2 : Int32)), (.int ((i1 >>> ((1 : Int32) &&& 31)) &&& (7 : Int32)))])) _
    refine XS.isub X0.here hx rfl (hb hby at_21) rfl ?_
    show Steps p.tables e below (s₁.setTop (mkF m 22 #[.val (.int i0), .val (.int i1), .val (.int i2), .val (.int (1 : Int32)), .unset, .unset] [(.int (((i1 >>> ((1 : Int32) &&& 31)) &&& (7 : Int32)) - (2 : Int32)))])) _
    refine XS.goto X0.here hx rfl (pc0 := 22) (pc' := 26) rfl (hb hby at_22) (by decide) (by decide) ?_
    show Steps p.tables e below (s₁.setTop (mkF m 26 #[.val (.int i0), .val (.int i1), .val (.int i2), .val (.int (1 : Int32)), .unset, .unset] [(.int (((i1 >>> ((1 : Int32) &&& 31)) &&& (7 : Int32)) - (2 : Int32)))])) _
    refine XS.istore X0.here hx rfl (hb hby at_26) rfl (l' := #[.val (.int i0), .val (.int i1), .val (.int i2), .val (.int (1 : Int32)), .val (.int (((i1 >>> ((1 : Int32) &&& 31)) &&& (7 : Int32)) - (2 : Int32))), .unset]) rfl ?_
    show Steps p.tables e below (s₁.setTop (mkF m 28 #[.val (.int i0), .val (.int i1), .val (.int i2), .val (.int (1 : Int32)), .val (.int (((i1 >>> ((1 : Int32) &&& 31)) &&& (7 : Int32)) - (2 : Int32))), .unset] [])) _
    refine XS.iloadN X0.here hx rfl (hb hby at_28) rfl ?_
    show Steps p.tables e below (s₁.setTop (mkF m 29 #[.val (.int i0), .val (.int i1), .val (.int i2), .val (.int (1 : Int32)), .val (.int (((i1 >>> ((1 : Int32) &&& 31)) &&& (7 : Int32)) - (2 : Int32))), .unset] [(.int (1 : Int32))])) _
    refine st1 _ ?_
    show Steps p.tables e below (T1.setTop (mkF m 32 #[.val (.int i0), .val (.int i1), .val (.int i2), .val (.int (1 : Int32)), .val (.int (((i1 >>> ((1 : Int32) &&& 31)) &&& (7 : Int32)) - (2 : Int32))), .unset] [(.ref r1)])) _
    refine XS.astore X1.here hx rfl (hb hby at_32) rfl rfl (l' := #[.val (.int i0), .val (.int i1), .val (.int i2), .val (.int (1 : Int32)), .val (.int (((i1 >>> ((1 : Int32) &&& 31)) &&& (7 : Int32)) - (2 : Int32))), .val (.ref r1)]) rfl ?_
    show Steps p.tables e below (T1.setTop (mkF m 34 #[.val (.int i0), .val (.int i1), .val (.int i2), .val (.int (1 : Int32)), .val (.int (((i1 >>> ((1 : Int32) &&& 31)) &&& (7 : Int32)) - (2 : Int32))), .val (.ref r1)] [])) _
    refine XS.aload X1.here hx rfl (hb hby at_34) rfl rfl ?_
    show Steps p.tables e below (T1.setTop (mkF m 36 #[.val (.int i0), .val (.int i1), .val (.int i2), .val (.int (1 : Int32)), .val (.int (((i1 >>> ((1 : Int32) &&& 31)) &&& (7 : Int32)) - (2 : Int32))), .val (.ref r1)] [(.ref r1)])) _
    refine XS.iload X1.here hx rfl (hb hby at_36) rfl ?_
    show Steps p.tables e below (T1.setTop (mkF m 38 #[.val (.int i0), .val (.int i1), .val (.int i2), .val (.int (1 : Int32)), .val (.int (((i1 >>> ((1 : Int32) &&& 31)) &&& (7 : Int32)) - (2 : Int32))), .val (.ref r1)] [(.int (((i1 >>> ((1 : Int32) &&& 31)) &&& (7 : Int32)) - (2 : Int32))), (.ref r1)])) _
    refine st2.trans ?_
    show Steps p.tables e below (T2.setTop (mkF m 41 #[.val (.int i0), .val (.int i1), .val (.int i2), .val (.int (1 : Int32)), .val (.int (((i1 >>> ((1 : Int32) &&& 31)) &&& (7 : Int32)) - (2 : Int32))), .val (.ref r1)] [(.int (1 : Int32))])) _
    refine XS.iloadN X2.here hx rfl (hb hby at_41) rfl ?_
    show Steps p.tables e below (T2.setTop (mkF m 42 #[.val (.int i0), .val (.int i1), .val (.int i2), .val (.int (1 : Int32)), .val (.int (((i1 >>> ((1 : Int32) &&& 31)) &&& (7 : Int32)) - (2 : Int32))), .val (.ref r1)] [(.int (1 : Int32)), (.int (1 : Int32))])) _
    refine XS.iload X2.here hx rfl (hb hby at_42) rfl ?_
    show Steps p.tables e below (T2.setTop (mkF m 44 #[.val (.int i0), .val (.int i1), .val (.int i2), .val (.int (1 : Int32)), .val (.int (((i1 >>> ((1 : Int32) &&& 31)) &&& (7 : Int32)) - (2 : Int32))), .val (.ref r1)] [(.int (((i1 >>> ((1 : Int32) &&& 31)) &&& (7 : Int32)) - (2 : Int32))), (.int (1 : Int32)), (.int (1 : Int32))])) _
    refine st3 _ ?_
    show Steps p.tables e below (T3.setTop (mkF m 47 #[.val (.int i0), .val (.int i1), .val (.int i2), .val (.int (1 : Int32)), .val (.int (((i1 >>> ((1 : Int32) &&& 31)) &&& (7 : Int32)) - (2 : Int32))), .val (.ref r1)] [(.int (1 : Int32)), (.int (1 : Int32))])) _
    refine XS.icmpNo X3.here hx rfl (hb hby at_47) rfl (teq (by decide : (1 : Int32) = (1 : Int32))).2 ?_
    show Steps p.tables e below (T3.setTop (mkF m 50 #[.val (.int i0), .val (.int i1), .val (.int i2), .val (.int (1 : Int32)), .val (.int (((i1 >>> ((1 : Int32) &&& 31)) &&& (7 : Int32)) - (2 : Int32))), .val (.ref r1)] [])) _
    refine XS.iconst X3.here hx rfl (hb hby at_50) ?_
    show Steps p.tables e below (T3.setTop (mkF m 51 #[.val (.int i0), .val (.int i1), .val (.int i2), .val (.int (1 : Int32)), .val (.int (((i1 >>> ((1 : Int32) &&& 31)) &&& (7 : Int32)) - (2 : Int32))), .val (.ref r1)] [(.int (1 : Int32))])) _
    refine XS.goto X3.here hx rfl (pc0 := 51) (pc' := 55) rfl (hb hby at_51) (by decide) (by decide) ?_
    show Steps p.tables e below (T3.setTop (mkF m 55 #[.val (.int i0), .val (.int i1), .val (.int i2), .val (.int (1 : Int32)), .val (.int (((i1 >>> ((1 : Int32) &&& 31)) &&& (7 : Int32)) - (2 : Int32))), .val (.ref r1)] [(.int (1 : Int32))])) _
    exact retN X3 hx (t := .boolean) Bd.returns (by simp) (hb hby at_55) hr
  · exact ⟨rfl, N3, e3⟩
set_option maxRecDepth 65536 in
set_option maxHeartbeats 40000000 in
theorem own_r0_k1m1c2 (l : Launch) (Z : State) (a0 : Array Value) (hw : ∀ d ∈ tables_1, d.before a0 Z = true) (ws : List Jvm.Cond) (r0 : Addr) (r1 : Addr) (r2 : Addr) (r3 : Addr) (r4 : Addr) (r5 : Addr) (r6 : Addr) (r7 : Addr) (r8 : Addr) (r0_c : Addr) (cl_r0_c : Cell) (r1_c : Addr) (cl_r1_c : Cell) (r2_c : Addr) (cl_r2_c : Cell) (r3_c : Addr) (cl_r3_c : Cell) (r4_c : Addr) (cl_r4_c : Cell) (r5_c : Addr) (cl_r5_c : Cell) (r6_c : Addr) (cl_r6_c : Cell) (r7_c : Addr) (cl_r7_c : Cell) (r8_c : Addr) (cl_r8_c : Cell) (h0 : Heap) (n0 : Nat) (Z0 : n0 ≤ h0.size) (F : own_W Z h0 r0 r1 r2 r3 r4 r5 r6 r7 r8 r0_c cl_r0_c r1_c cl_r1_c r2_c cl_r2_c r3_c cl_r3_c r4_c cl_r4_c r5_c cl_r5_c r6_c cl_r6_c r7_c cl_r7_c r8_c cl_r8_c) (i0 : Int32) (i1 : Int32) (i2 : Int32) (hk : ((i0 &&& (2147483647 : Int32)) % (9 : Int32)) = (1 : Int32)) (hm : (i1 &&& (1 : Int32)) = (1 : Int32)) (h0' : ¬ ((((i1 >>> ((1 : Int32) &&& 31)) &&& (7 : Int32)) - (2 : Int32)) = (0 : Int32))) (h3 : ¬ ((((i1 >>> ((1 : Int32) &&& 31)) &&& (7 : Int32)) - (2 : Int32)) = (3 : Int32))) :
    MetFree l x (head1 (Jvm.Cond.code x code maxLocals ret :: ws) room_1) (fun a U => a = #[(.int i0), (.int i1), (.int i2)] ∧ Z.Warmed39 U.vm ∧ U.heap = h0) (fun _ _ _ _ _ => True) (fun _ U o U' => ∃ v L, o = .returned v ∧ own_Q (.int (1 : Int32)) h0 n0 v U'.heap L ∧ FrameEnd U o U' L room_1.cells room_1.slots) := by
  obtain ⟨S_r0, E_r0, S_r1, E_r1, S_r2, E_r2, S_r3, E_r3, S_r4, E_r4, S_r5, E_r5, S_r6, E_r6, S_r7, E_r7, S_r8, E_r8, F_r0_counts, Ar_r0_c, F_r1_counts, Ar_r1_c, F_r2_counts, Ar_r2_c, F_r3_counts, Ar_r3_c, F_r4_counts, Ar_r4_c, F_r5_counts, Ar_r5_c, F_r6_counts, Ar_r6_c, F_r7_counts, Ar_r7_c, F_r8_counts, Ar_r8_c, Sz_r0_c, El_r0_c_0, Sz_r1_c, El_r1_c_0, El_r1_c_1, Sz_r2_c, El_r2_c_0, Sz_r3_c, Sz_r4_c, Sz_r5_c, Sz_r6_c, Sz_r7_c, Sz_r8_c⟩ := id F
  refine MetFree.of_bodySF (plainFor_of_name own_pn_CommandTakesPinLaw) hisR ?_
  intro p e s m args below meth c s₁ Bd hml0 hP hK
  obtain ⟨rfl, hZ, hh⟩ := hP
  have hx := Bd.exec
  have hby := Bd.bytes
  have hml : c.maxLocals = 6 := hml0
  have hown : s.vm.findClass "com/example/urbana/urbana/protocol/CommandTakesPinLaw" = some m.cls := findClass_of_methodNamed Bd.named
  have X0 : Stand p l e room_1 s m #[(.int i0), (.int i1), (.int i2)] below meth c s₁ [] 0 0 := Stand.of_body Bd
  have e0 : s₁.heap = h0 := by rw [← hh, Bd.state]; rfl
  have N0 := Fr.nil n0
  have pre0 : ∀ t, Steps p.tables e below (s₁.setTop (mkF m 0 #[.val (.int i0), .val (.int i1), .val (.int i2), .unset, .unset, .unset] [])) t → Steps p.tables e below (s₁.setTop (entryFrame m #[(.int i0), (.int i1), (.int i2)] maxLocals)) t := fun t k => castTop (own_ef0_III m i0 i1 i2) k
  obtain ⟨_, _, ⟨T1, L1, k1, n1⟩, -, X1, ⟨Lc1, hQ1, l1, y1, z1⟩, st1⟩ := Jvm.LawKit.callS X0 hx (y := (⟨"com/example/urbana/urbana/protocol/CommandTakesPinLaw", "pick", "(I)Lcom/example/urbana/urbana/protocol/Command;"⟩ : MethodName)) hown (mvT hZ (hw _ (List.mem_of_getElem? (i := 1) rfl))) (mvT hZ (hw _ (List.mem_of_getElem? (i := 2) rfl))) (mvT hZ (hw _ (List.mem_of_getElem? (i := 3) rfl))) (mvT hZ (hw _ (List.mem_of_getElem? (i := 4) rfl))) (by decide) (backOf (W := 0) (own_r1_11 l Z a0 hw [] r0 r1 r2 r3 r4 r5 r6 r7 r8 r0_c cl_r0_c r1_c cl_r1_c r2_c cl_r2_c r3_c cl_r3_c r4_c cl_r4_c r5_c cl_r5_c r6_c cl_r6_c r7_c cl_r7_c r8_c cl_r8_c h0 n0 Z0 F ) hZ (hw _ (List.mem_of_getElem? (i := 4) rfl)) (hw _ (List.mem_of_getElem? (i := 3) rfl)) (by decide) (by decide)) (g := (mkF m 29 #[.val (.int i0), .val (.int i1), .val (.int i2), .val (.int (1 : Int32)), .val (.int (((i1 >>> ((1 : Int32) &&& 31)) &&& (7 : Int32)) - (2 : Int32))), .unset] [(.int (1 : Int32))])) rfl (by rw [hml]; rfl) (argsL := [(.int (1 : Int32))]) (rest := []) (lenOf own_pd0 rfl) rfl (by show 2 * 0 + _ ≤ _; exact Nat.le_of_eq rfl) (hb hby at_29) (fun _ _ => ⟨rfl, e0, (by decide : 0 + 0 ≤ _), (by decide : 0 + 0 ≤ _)⟩)
  dsimp only [Pt.U, Pt.locs, Pt.cells, Pt.slots] at X1 l1 y1 z1 st1 hQ1
  subst l1 y1 z1
  obtain ⟨rfl, N1q, e1⟩ := hQ1
  have N1 := Fr.app N0 N1q
  obtain ⟨cq2, kq2, q2a, q2b, q2c⟩ := isOf hZ e1 E_r1
  obtain ⟨_, _, ⟨T2, L2, k2, n2⟩, -, X2, ⟨Lc2, hQ2, l2, y2, z2⟩, st2⟩ := X1.virtualBack hx (y := (⟨"com/example/urbana/urbana/protocol/Command", "takes", "(I)Z"⟩ : MethodName)) (z := (⟨"com/example/urbana/urbana/protocol/Command", "takes", "(I)Z"⟩ : MethodName)) hown (mvT hZ (hw _ (List.mem_of_getElem? (i := 8) rfl))) (mvT hZ (hw _ (List.mem_of_getElem? (i := 9) rfl))) (notFace_of_selects (args := #[]) (mvT hZ (hw _ (List.mem_of_getElem? (i := 11) rfl)))) (mvT hZ (hw _ (List.mem_of_getElem? (i := 11) rfl))) (mvT hZ (hw _ (List.mem_of_getElem? (i := 10) rfl))) (by decide) (backOf (W := 0) (own_r2_18 l Z a0 hw [] r0 r1 r2 r3 r4 r5 r6 r7 r8 r0_c cl_r0_c r1_c cl_r1_c r2_c cl_r2_c r3_c cl_r3_c r4_c cl_r4_c r5_c cl_r5_c r6_c cl_r6_c r7_c cl_r7_c r8_c cl_r8_c h0 n0 Z0 F (((i1 >>> ((1 : Int32) &&& 31)) &&& (7 : Int32)) - (2 : Int32)) h0' h3) hZ (hw _ (List.mem_of_getElem? (i := 12) rfl)) (hw _ (List.mem_of_getElem? (i := 6) rfl)) (by decide) (by decide)) q2a q2c (g := (mkF m 38 #[.val (.int i0), .val (.int i1), .val (.int i2), .val (.int (1 : Int32)), .val (.int (((i1 >>> ((1 : Int32) &&& 31)) &&& (7 : Int32)) - (2 : Int32))), .val (.ref r1)] [(.int (((i1 >>> ((1 : Int32) &&& 31)) &&& (7 : Int32)) - (2 : Int32))), (.ref r1)])) rfl (by rw [hml]; rfl) (Steps.refl _) (argsL := [(.int (((i1 >>> ((1 : Int32) &&& 31)) &&& (7 : Int32)) - (2 : Int32)))]) (rest := []) (lenOf own_pd1 rfl) rfl (by show 2 * 0 + _ ≤ _; exact Nat.le_of_eq rfl) (hb hby at_38) (fun _ _ => ⟨rfl, e1, (by decide : 0 + 0 ≤ _), (by decide : 0 + 0 ≤ _)⟩)
  dsimp only [Pt.U, Pt.locs, Pt.cells, Pt.slots] at X2 l2 y2 z2 st2 hQ2
  subst l2 y2 z2
  obtain ⟨rfl, N2q, e2⟩ := hQ2
  have N2 := Fr.app N1 N2q
  obtain ⟨_, _, ⟨T3, L3, k3, n3⟩, -, X3, ⟨Lc3, hQ3, l3, y3, z3⟩, st3⟩ := Jvm.LawKit.callS X2 hx (y := (⟨"com/example/urbana/urbana/protocol/CommandTakesPinLaw", "expected", "(II)Z"⟩ : MethodName)) hown (mvT hZ (hw _ (List.mem_of_getElem? (i := 15) rfl))) (mvT hZ (hw _ (List.mem_of_getElem? (i := 16) rfl))) (mvT hZ (hw _ (List.mem_of_getElem? (i := 3) rfl))) (mvT hZ (hw _ (List.mem_of_getElem? (i := 17) rfl))) (by decide) (backOf (W := 1) (own_r3_19 l Z a0 hw [] r0 r1 r2 r3 r4 r5 r6 r7 r8 r0_c cl_r0_c r1_c cl_r1_c r2_c cl_r2_c r3_c cl_r3_c r4_c cl_r4_c r5_c cl_r5_c r6_c cl_r6_c r7_c cl_r7_c r8_c cl_r8_c h0 n0 Z0 F (((i1 >>> ((1 : Int32) &&& 31)) &&& (7 : Int32)) - (2 : Int32)) h0' h3) hZ (hw _ (List.mem_of_getElem? (i := 17) rfl)) (hw _ (List.mem_of_getElem? (i := 3) rfl)) (by decide) (by decide)) (g := (mkF m 44 #[.val (.int i0), .val (.int i1), .val (.int i2), .val (.int (1 : Int32)), .val (.int (((i1 >>> ((1 : Int32) &&& 31)) &&& (7 : Int32)) - (2 : Int32))), .val (.ref r1)] [(.int (((i1 >>> ((1 : Int32) &&& 31)) &&& (7 : Int32)) - (2 : Int32))), (.int (1 : Int32)), (.int (0 : Int32))])) rfl (by rw [hml]; rfl) (argsL := [(.int (1 : Int32)), (.int (((i1 >>> ((1 : Int32) &&& 31)) &&& (7 : Int32)) - (2 : Int32)))]) (rest := [(.int (0 : Int32))]) (lenOf own_pd2 rfl) rfl (by show 2 * 0 + _ ≤ _; exact Nat.le_of_eq rfl) (hb hby at_44) (fun _ _ => ⟨rfl, e2, (by decide : 0 + 0 ≤ _), (by decide : 0 + 0 ≤ _)⟩)
  dsimp only [Pt.U, Pt.locs, Pt.cells, Pt.slots] at X3 l3 y3 z3 st3 hQ3
  subst l3 y3 z3
  obtain ⟨rfl, N3q, e3⟩ := hQ3
  have N3 := Fr.app N2 N3q
  obtain ⟨fs, hr, hrun, hended, hW, hsame⟩ := X3.leave (v := some (.int (1 : Int32))) (fun h => by rw [Bd.returns] at h; cases h)
  refine ⟨_, _, pre0 _ ?_, hrun, hended, _, _, rfl, ?_, ⟨_, rfl⟩, hW, hsame.mono (by decide) (by decide)⟩
  · show Steps p.tables e below (s₁.setTop (mkF m 0 #[.val (.int i0), .val (.int i1), .val (.int i2), .unset, .unset, .unset] [])) _
    refine XS.iloadN X0.here hx rfl (hb hby at_0) rfl ?_
    show Steps p.tables e below (s₁.setTop (mkF m 1 #[.val (.int i0), .val (.int i1), .val (.int i2), .unset, .unset, .unset] [(.int i0)])) _
    refine X0.ldcInt hx hown (mvT hZ (hw _ (List.mem_of_getElem? (i := 0) rfl))) (g := (mkF m 1 #[.val (.int i0), .val (.int i1), .val (.int i2), .unset, .unset, .unset] [(.int i0)])) rfl (hb hby at_1) _ ?_
    show Steps p.tables e below (s₁.setTop (mkF m 3 #[.val (.int i0), .val (.int i1), .val (.int i2), .unset, .unset, .unset] [(.int (2147483647 : Int32)), (.int i0)])) _
    refine XS.iand X0.here hx rfl (hb hby at_3) rfl ?_
    show Steps p.tables e below (s₁.setTop (mkF m 4 #[.val (.int i0), .val (.int i1), .val (.int i2), .unset, .unset, .unset] [(.int (i0 &&& (2147483647 : Int32)))])) _
    refine XS.bipush X0.here hx rfl (hb hby at_4) ?_
    show Steps p.tables e below (s₁.setTop (mkF m 6 #[.val (.int i0), .val (.int i1), .val (.int i2), .unset, .unset, .unset] [(.int (9 : Int32)), (.int (i0 &&& (2147483647 : Int32)))])) _
    refine iremM (g := (mkF m 6 #[.val (.int i0), .val (.int i1), .val (.int i2), .unset, .unset, .unset] [(.int (9 : Int32)), (.int (i0 &&& (2147483647 : Int32)))])) X0 hx rfl (hb hby at_6) rfl (by decide) ?_
    show Steps p.tables e below (s₁.setTop (mkF m 7 #[.val (.int i0), .val (.int i1), .val (.int i2), .unset, .unset, .unset] [(.int ((i0 &&& (2147483647 : Int32)) % (9 : Int32)))])) _
    rw [hk]
    show Steps p.tables e below (s₁.setTop (mkF m 7 #[.val (.int i0), .val (.int i1), .val (.int i2), .unset, .unset, .unset] [(.int (1 : Int32))])) _
    refine XS.istoreN X0.here hx rfl (hb hby at_7) rfl (l' := #[.val (.int i0), .val (.int i1), .val (.int i2), .val (.int (1 : Int32)), .unset, .unset]) rfl ?_
    show Steps p.tables e below (s₁.setTop (mkF m 8 #[.val (.int i0), .val (.int i1), .val (.int i2), .val (.int (1 : Int32)), .unset, .unset] [])) _
    refine XS.iloadN X0.here hx rfl (hb hby at_8) rfl ?_
    show Steps p.tables e below (s₁.setTop (mkF m 9 #[.val (.int i0), .val (.int i1), .val (.int i2), .val (.int (1 : Int32)), .unset, .unset] [(.int i1)])) _
    refine XS.iconst X0.here hx rfl (hb hby at_9) ?_
    show Steps p.tables e below (s₁.setTop (mkF m 10 #[.val (.int i0), .val (.int i1), .val (.int i2), .val (.int (1 : Int32)), .unset, .unset] [(.int (1 : Int32)), (.int i1)])) _
    refine XS.iand X0.here hx rfl (hb hby at_10) rfl ?_
    show Steps p.tables e below (s₁.setTop (mkF m 11 #[.val (.int i0), .val (.int i1), .val (.int i2), .val (.int (1 : Int32)), .unset, .unset] [(.int (i1 &&& (1 : Int32)))])) _
    rw [hm]
    show Steps p.tables e below (s₁.setTop (mkF m 11 #[.val (.int i0), .val (.int i1), .val (.int i2), .val (.int (1 : Int32)), .unset, .unset] [(.int (1 : Int32))])) _
    refine XS.ifNo X0.here hx rfl (hb hby at_11) rfl ((if0 _ _).trans (feq (by decide : ¬ ((1 : Int32) = (0 : Int32)))).1) ?_
    show Steps p.tables e below (s₁.setTop (mkF m 14 #[.val (.int i0), .val (.int i1), .val (.int i2), .val (.int (1 : Int32)), .unset, .unset] [])) _
    refine XS.iloadN X0.here hx rfl (hb hby at_14) rfl ?_
    show Steps p.tables e below (s₁.setTop (mkF m 15 #[.val (.int i0), .val (.int i1), .val (.int i2), .val (.int (1 : Int32)), .unset, .unset] [(.int i1)])) _
    refine XS.iconst X0.here hx rfl (hb hby at_15) ?_
    show Steps p.tables e below (s₁.setTop (mkF m 16 #[.val (.int i0), .val (.int i1), .val (.int i2), .val (.int (1 : Int32)), .unset, .unset] [(.int (1 : Int32)), (.int i1)])) _
    refine XS.ishr X0.here hx rfl (hb hby at_16) rfl ?_
    show Steps p.tables e below (s₁.setTop (mkF m 17 #[.val (.int i0), .val (.int i1), .val (.int i2), .val (.int (1 : Int32)), .unset, .unset] [(.int (i1 >>> ((1 : Int32) &&& 31)))])) _
    refine XS.bipush X0.here hx rfl (hb hby at_17) ?_
    show Steps p.tables e below (s₁.setTop (mkF m 19 #[.val (.int i0), .val (.int i1), .val (.int i2), .val (.int (1 : Int32)), .unset, .unset] [(.int (7 : Int32)), (.int (i1 >>> ((1 : Int32) &&& 31)))])) _
    refine XS.iand X0.here hx rfl (hb hby at_19) rfl ?_
    show Steps p.tables e below (s₁.setTop (mkF m 20 #[.val (.int i0), .val (.int i1), .val (.int i2), .val (.int (1 : Int32)), .unset, .unset] [(.int ((i1 >>> ((1 : Int32) &&& 31)) &&& (7 : Int32)))])) _
    refine XS.iconst X0.here hx rfl (hb hby at_20) ?_
    show Steps p.tables e below (s₁.setTop (mkF m 21 #[.val (.int i0), .val (.int i1), .val (.int i2), .val (.int (1 : Int32)), .unset, .unset] [(.int (2 : Int32)), (.int ((i1 >>> ((1 : Int32) &&& 31)) &&& (7 : Int32)))])) _
    refine XS.isub X0.here hx rfl (hb hby at_21) rfl ?_
    show Steps p.tables e below (s₁.setTop (mkF m 22 #[.val (.int i0), .val (.int i1), .val (.int i2), .val (.int (1 : Int32)), .unset, .unset] [(.int (((i1 >>> ((1 : Int32) &&& 31)) &&& (7 : Int32)) - (2 : Int32)))])) _
    refine XS.goto X0.here hx rfl (pc0 := 22) (pc' := 26) rfl (hb hby at_22) (by decide) (by decide) ?_
    show Steps p.tables e below (s₁.setTop (mkF m 26 #[.val (.int i0), .val (.int i1), .val (.int i2), .val (.int (1 : Int32)), .unset, .unset] [(.int (((i1 >>> ((1 : Int32) &&& 31)) &&& (7 : Int32)) - (2 : Int32)))])) _
    refine XS.istore X0.here hx rfl (hb hby at_26) rfl (l' := #[.val (.int i0), .val (.int i1), .val (.int i2), .val (.int (1 : Int32)), .val (.int (((i1 >>> ((1 : Int32) &&& 31)) &&& (7 : Int32)) - (2 : Int32))), .unset]) rfl ?_
    show Steps p.tables e below (s₁.setTop (mkF m 28 #[.val (.int i0), .val (.int i1), .val (.int i2), .val (.int (1 : Int32)), .val (.int (((i1 >>> ((1 : Int32) &&& 31)) &&& (7 : Int32)) - (2 : Int32))), .unset] [])) _
    refine XS.iloadN X0.here hx rfl (hb hby at_28) rfl ?_
    show Steps p.tables e below (s₁.setTop (mkF m 29 #[.val (.int i0), .val (.int i1), .val (.int i2), .val (.int (1 : Int32)), .val (.int (((i1 >>> ((1 : Int32) &&& 31)) &&& (7 : Int32)) - (2 : Int32))), .unset] [(.int (1 : Int32))])) _
    refine st1 _ ?_
    show Steps p.tables e below (T1.setTop (mkF m 32 #[.val (.int i0), .val (.int i1), .val (.int i2), .val (.int (1 : Int32)), .val (.int (((i1 >>> ((1 : Int32) &&& 31)) &&& (7 : Int32)) - (2 : Int32))), .unset] [(.ref r1)])) _
    refine XS.astore X1.here hx rfl (hb hby at_32) rfl rfl (l' := #[.val (.int i0), .val (.int i1), .val (.int i2), .val (.int (1 : Int32)), .val (.int (((i1 >>> ((1 : Int32) &&& 31)) &&& (7 : Int32)) - (2 : Int32))), .val (.ref r1)]) rfl ?_
    show Steps p.tables e below (T1.setTop (mkF m 34 #[.val (.int i0), .val (.int i1), .val (.int i2), .val (.int (1 : Int32)), .val (.int (((i1 >>> ((1 : Int32) &&& 31)) &&& (7 : Int32)) - (2 : Int32))), .val (.ref r1)] [])) _
    refine XS.aload X1.here hx rfl (hb hby at_34) rfl rfl ?_
    show Steps p.tables e below (T1.setTop (mkF m 36 #[.val (.int i0), .val (.int i1), .val (.int i2), .val (.int (1 : Int32)), .val (.int (((i1 >>> ((1 : Int32) &&& 31)) &&& (7 : Int32)) - (2 : Int32))), .val (.ref r1)] [(.ref r1)])) _
    refine XS.iload X1.here hx rfl (hb hby at_36) rfl ?_
    show Steps p.tables e below (T1.setTop (mkF m 38 #[.val (.int i0), .val (.int i1), .val (.int i2), .val (.int (1 : Int32)), .val (.int (((i1 >>> ((1 : Int32) &&& 31)) &&& (7 : Int32)) - (2 : Int32))), .val (.ref r1)] [(.int (((i1 >>> ((1 : Int32) &&& 31)) &&& (7 : Int32)) - (2 : Int32))), (.ref r1)])) _
    refine st2.trans ?_
    show Steps p.tables e below (T2.setTop (mkF m 41 #[.val (.int i0), .val (.int i1), .val (.int i2), .val (.int (1 : Int32)), .val (.int (((i1 >>> ((1 : Int32) &&& 31)) &&& (7 : Int32)) - (2 : Int32))), .val (.ref r1)] [(.int (0 : Int32))])) _
    refine XS.iloadN X2.here hx rfl (hb hby at_41) rfl ?_
    show Steps p.tables e below (T2.setTop (mkF m 42 #[.val (.int i0), .val (.int i1), .val (.int i2), .val (.int (1 : Int32)), .val (.int (((i1 >>> ((1 : Int32) &&& 31)) &&& (7 : Int32)) - (2 : Int32))), .val (.ref r1)] [(.int (1 : Int32)), (.int (0 : Int32))])) _
    refine XS.iload X2.here hx rfl (hb hby at_42) rfl ?_
    show Steps p.tables e below (T2.setTop (mkF m 44 #[.val (.int i0), .val (.int i1), .val (.int i2), .val (.int (1 : Int32)), .val (.int (((i1 >>> ((1 : Int32) &&& 31)) &&& (7 : Int32)) - (2 : Int32))), .val (.ref r1)] [(.int (((i1 >>> ((1 : Int32) &&& 31)) &&& (7 : Int32)) - (2 : Int32))), (.int (1 : Int32)), (.int (0 : Int32))])) _
    refine st3 _ ?_
    show Steps p.tables e below (T3.setTop (mkF m 47 #[.val (.int i0), .val (.int i1), .val (.int i2), .val (.int (1 : Int32)), .val (.int (((i1 >>> ((1 : Int32) &&& 31)) &&& (7 : Int32)) - (2 : Int32))), .val (.ref r1)] [(.int (0 : Int32)), (.int (0 : Int32))])) _
    refine XS.icmpNo X3.here hx rfl (hb hby at_47) rfl (teq (by decide : (0 : Int32) = (0 : Int32))).2 ?_
    show Steps p.tables e below (T3.setTop (mkF m 50 #[.val (.int i0), .val (.int i1), .val (.int i2), .val (.int (1 : Int32)), .val (.int (((i1 >>> ((1 : Int32) &&& 31)) &&& (7 : Int32)) - (2 : Int32))), .val (.ref r1)] [])) _
    refine XS.iconst X3.here hx rfl (hb hby at_50) ?_
    show Steps p.tables e below (T3.setTop (mkF m 51 #[.val (.int i0), .val (.int i1), .val (.int i2), .val (.int (1 : Int32)), .val (.int (((i1 >>> ((1 : Int32) &&& 31)) &&& (7 : Int32)) - (2 : Int32))), .val (.ref r1)] [(.int (1 : Int32))])) _
    refine XS.goto X3.here hx rfl (pc0 := 51) (pc' := 55) rfl (hb hby at_51) (by decide) (by decide) ?_
    show Steps p.tables e below (T3.setTop (mkF m 55 #[.val (.int i0), .val (.int i1), .val (.int i2), .val (.int (1 : Int32)), .val (.int (((i1 >>> ((1 : Int32) &&& 31)) &&& (7 : Int32)) - (2 : Int32))), .val (.ref r1)] [(.int (1 : Int32))])) _
    exact retN X3 hx (t := .boolean) Bd.returns (by simp) (hb hby at_55) hr
  · exact ⟨rfl, N3, e3⟩
theorem own_d1_17 : decode method_2_code 17 = .ok (.iload_n 0, 1) := by decide +kernel
theorem own_d1_18 : decode method_2_code 18 = .ok (.iconst 2, 1) := by decide +kernel
theorem own_d1_19 : decode method_2_code 19 = .ok (.if_icmp .ne 7, 3) := by decide +kernel
theorem own_d1_22 : decode method_2_code 22 = .ok (.getstatic 16, 3) := by decide +kernel
theorem own_d1_25 : decode method_2_code 25 = .ok (.areturn, 1) := by decide +kernel
set_option maxRecDepth 65536 in
set_option maxHeartbeats 40000000 in
theorem own_r1_24 (l : Launch) (Z : State) (a0 : Array Value) (hw : ∀ d ∈ tables_1, d.before a0 Z = true) (ws : List Jvm.Cond) (r0 : Addr) (r1 : Addr) (r2 : Addr) (r3 : Addr) (r4 : Addr) (r5 : Addr) (r6 : Addr) (r7 : Addr) (r8 : Addr) (r0_c : Addr) (cl_r0_c : Cell) (r1_c : Addr) (cl_r1_c : Cell) (r2_c : Addr) (cl_r2_c : Cell) (r3_c : Addr) (cl_r3_c : Cell) (r4_c : Addr) (cl_r4_c : Cell) (r5_c : Addr) (cl_r5_c : Cell) (r6_c : Addr) (cl_r6_c : Cell) (r7_c : Addr) (cl_r7_c : Cell) (r8_c : Addr) (cl_r8_c : Cell) (h0 : Heap) (n0 : Nat) (Z0 : n0 ≤ h0.size) (F : own_W Z h0 r0 r1 r2 r3 r4 r5 r6 r7 r8 r0_c cl_r0_c r1_c cl_r1_c r2_c cl_r2_c r3_c cl_r3_c r4_c cl_r4_c r5_c cl_r5_c r6_c cl_r6_c r7_c cl_r7_c r8_c cl_r8_c)   :
    MetFree l (⟨"com/example/urbana/urbana/protocol/CommandTakesPinLaw", "pick", "(I)Lcom/example/urbana/urbana/protocol/Command;"⟩ : MethodName) (head1 (Jvm.Cond.code (⟨"com/example/urbana/urbana/protocol/CommandTakesPinLaw", "pick", "(I)Lcom/example/urbana/urbana/protocol/Command;"⟩ : MethodName) method_2_code 1 (some (.object "com/example/urbana/urbana/protocol/Command")) :: ws) ({ frames := 0, cells := 0, slots := 0, locals := 0 } : Room)) (fun a U => a = #[(.int (2 : Int32))] ∧ Z.Warmed39 U.vm ∧ U.heap = h0) (fun _ _ _ _ _ => True) (fun _ U o U' => ∃ v L, o = .returned v ∧ own_Q (.ref r2) h0 n0 v U'.heap L ∧ FrameEnd U o U' L ({ frames := 0, cells := 0, slots := 0, locals := 0 } : Room).cells ({ frames := 0, cells := 0, slots := 0, locals := 0 } : Room).slots) := by
  obtain ⟨S_r0, E_r0, S_r1, E_r1, S_r2, E_r2, S_r3, E_r3, S_r4, E_r4, S_r5, E_r5, S_r6, E_r6, S_r7, E_r7, S_r8, E_r8, F_r0_counts, Ar_r0_c, F_r1_counts, Ar_r1_c, F_r2_counts, Ar_r2_c, F_r3_counts, Ar_r3_c, F_r4_counts, Ar_r4_c, F_r5_counts, Ar_r5_c, F_r6_counts, Ar_r6_c, F_r7_counts, Ar_r7_c, F_r8_counts, Ar_r8_c, Sz_r0_c, El_r0_c_0, Sz_r1_c, El_r1_c_0, El_r1_c_1, Sz_r2_c, El_r2_c_0, Sz_r3_c, Sz_r4_c, Sz_r5_c, Sz_r6_c, Sz_r7_c, Sz_r8_c⟩ := id F
  refine MetFree.of_bodySF (plainFor_of_name own_pn_CommandTakesPinLaw) hisR ?_
  intro p e s m args below meth c s₁ Bd hml0 hP hK
  obtain ⟨rfl, hZ, hh⟩ := hP
  have hx := Bd.exec
  have hby := Bd.bytes
  have hml : c.maxLocals = 1 := hml0
  have hown : s.vm.findClass "com/example/urbana/urbana/protocol/CommandTakesPinLaw" = some m.cls := findClass_of_methodNamed Bd.named
  have X0 : Stand p l e ({ frames := 0, cells := 0, slots := 0, locals := 0 } : Room) s m #[(.int (2 : Int32))] below meth c s₁ [] 0 0 := Stand.of_body Bd
  have e0 : s₁.heap = h0 := by rw [← hh, Bd.state]; rfl
  have N0 := Fr.nil n0
  have pre0 : ∀ t, Steps p.tables e below (s₁.setTop (mkF m 0 #[.val (.int (2 : Int32))] [])) t → Steps p.tables e below (s₁.setTop (entryFrame m #[(.int (2 : Int32))] 1)) t := fun t k => castTop (own_ef1_I m (2 : Int32)) k
  obtain ⟨T1, X1, e1, st1⟩ := getS2 X0 hx hZ hown (host := "") (Or.inl (hw _ (List.mem_of_getElem? (i := 20) rfl))) Via.refl e0 S_r2 (g := (mkF m 22 #[.val (.int (2 : Int32))] [])) rfl (hb hby own_d1_22)
  obtain ⟨fs, hr, hrun, hended, hW, hsame⟩ := X1.leave (v := some (.ref r2)) (fun h => by rw [Bd.returns] at h; cases h)
  refine ⟨_, _, pre0 _ ?_, hrun, hended, _, _, rfl, ?_, ⟨_, rfl⟩, hW, hsame.mono (by decide) (by decide)⟩
  · show Steps p.tables e below (s₁.setTop (mkF m 0 #[.val (.int (2 : Int32))] [])) _
    refine XS.iloadN X0.here hx rfl (hb hby own_d1_0) rfl ?_
    show Steps p.tables e below (s₁.setTop (mkF m 1 #[.val (.int (2 : Int32))] [(.int (2 : Int32))])) _
    refine XS.ifYes X0.here hx rfl (pc0 := 1) (pc' := 8) rfl (hb hby own_d1_1) rfl ((if0 _ _).trans (feq (by decide : ¬ ((2 : Int32) = (0 : Int32)))).2) (by decide) (by decide) ?_
    show Steps p.tables e below (s₁.setTop (mkF m 8 #[.val (.int (2 : Int32))] [])) _
    refine XS.iloadN X0.here hx rfl (hb hby own_d1_8) rfl ?_
    show Steps p.tables e below (s₁.setTop (mkF m 9 #[.val (.int (2 : Int32))] [(.int (2 : Int32))])) _
    refine XS.iconst X0.here hx rfl (hb hby own_d1_9) ?_
    show Steps p.tables e below (s₁.setTop (mkF m 10 #[.val (.int (2 : Int32))] [(.int (1 : Int32)), (.int (2 : Int32))])) _
    refine XS.icmpYes X0.here hx rfl (pc0 := 10) (pc' := 17) rfl (hb hby own_d1_10) rfl (feq (by decide : ¬ ((2 : Int32) = (1 : Int32)))).2 (by decide) (by decide) ?_
    show Steps p.tables e below (s₁.setTop (mkF m 17 #[.val (.int (2 : Int32))] [])) _
    refine XS.iloadN X0.here hx rfl (hb hby own_d1_17) rfl ?_
    show Steps p.tables e below (s₁.setTop (mkF m 18 #[.val (.int (2 : Int32))] [(.int (2 : Int32))])) _
    refine XS.iconst X0.here hx rfl (hb hby own_d1_18) ?_
    show Steps p.tables e below (s₁.setTop (mkF m 19 #[.val (.int (2 : Int32))] [(.int (2 : Int32)), (.int (2 : Int32))])) _
    refine XS.icmpNo X0.here hx rfl (hb hby own_d1_19) rfl (teq (by decide : (2 : Int32) = (2 : Int32))).2 ?_
    show Steps p.tables e below (s₁.setTop (mkF m 22 #[.val (.int (2 : Int32))] [])) _
    refine st1 _ ?_
    show Steps p.tables e below (T1.setTop (mkF m 25 #[.val (.int (2 : Int32))] [(.ref r2)])) _
    jvm_step X1.here [X1.here.top, hx, (hb hby own_d1_25), X1.method', Bd.returns, Value.isRef, FieldType.isReference]
    first | (intro acts; rw [hr _ acts rfl rfl rfl]) | rw [hr _ _ rfl rfl rfl]
    exact Steps.refl _
  · exact ⟨rfl, N0, e1⟩
set_option maxRecDepth 65536 in
set_option maxHeartbeats 40000000 in
theorem own_r2_25 (l : Launch) (Z : State) (a0 : Array Value) (hw : ∀ d ∈ tables_1, d.before a0 Z = true) (ws : List Jvm.Cond) (r0 : Addr) (r1 : Addr) (r2 : Addr) (r3 : Addr) (r4 : Addr) (r5 : Addr) (r6 : Addr) (r7 : Addr) (r8 : Addr) (r0_c : Addr) (cl_r0_c : Cell) (r1_c : Addr) (cl_r1_c : Cell) (r2_c : Addr) (cl_r2_c : Cell) (r3_c : Addr) (cl_r3_c : Cell) (r4_c : Addr) (cl_r4_c : Cell) (r5_c : Addr) (cl_r5_c : Cell) (r6_c : Addr) (cl_r6_c : Cell) (r7_c : Addr) (cl_r7_c : Cell) (r8_c : Addr) (cl_r8_c : Cell) (h0 : Heap) (n0 : Nat) (Z0 : n0 ≤ h0.size) (F : own_W Z h0 r0 r1 r2 r3 r4 r5 r6 r7 r8 r0_c cl_r0_c r1_c cl_r1_c r2_c cl_r2_c r3_c cl_r3_c r4_c cl_r4_c r5_c cl_r5_c r6_c cl_r6_c r7_c cl_r7_c r8_c cl_r8_c) (q0 : Int32) (h1 : q0 = (1 : Int32)) :
    MetFree l (⟨"com/example/urbana/urbana/protocol/Command", "takes", "(I)Z"⟩ : MethodName) (head1 (Jvm.Cond.code (⟨"com/example/urbana/urbana/protocol/Command", "takes", "(I)Z"⟩ : MethodName) prog_2_method_8_code 7 (some .boolean) :: ws) ({ frames := 0, cells := 0, slots := 0, locals := 0 } : Room)) (fun a U => a = #[(.ref r2), (.int q0)] ∧ Z.Warmed39 U.vm ∧ U.heap = h0) (fun _ _ _ _ _ => True) (fun _ U o U' => ∃ v L, o = .returned v ∧ own_Q (.int (1 : Int32)) h0 n0 v U'.heap L ∧ FrameEnd U o U' L ({ frames := 0, cells := 0, slots := 0, locals := 0 } : Room).cells ({ frames := 0, cells := 0, slots := 0, locals := 0 } : Room).slots) := by
  obtain ⟨S_r0, E_r0, S_r1, E_r1, S_r2, E_r2, S_r3, E_r3, S_r4, E_r4, S_r5, E_r5, S_r6, E_r6, S_r7, E_r7, S_r8, E_r8, F_r0_counts, Ar_r0_c, F_r1_counts, Ar_r1_c, F_r2_counts, Ar_r2_c, F_r3_counts, Ar_r3_c, F_r4_counts, Ar_r4_c, F_r5_counts, Ar_r5_c, F_r6_counts, Ar_r6_c, F_r7_counts, Ar_r7_c, F_r8_counts, Ar_r8_c, Sz_r0_c, El_r0_c_0, Sz_r1_c, El_r1_c_0, El_r1_c_1, Sz_r2_c, El_r2_c_0, Sz_r3_c, Sz_r4_c, Sz_r5_c, Sz_r6_c, Sz_r7_c, Sz_r8_c⟩ := id F
  refine MetFree.of_bodySF (plainFor_of_name own_pn_Command) hisR ?_
  intro p e s m args below meth c s₁ Bd hml0 hP hK
  obtain ⟨rfl, hZ, hh⟩ := hP
  have hx := Bd.exec
  have hby := Bd.bytes
  have hml : c.maxLocals = 7 := hml0
  have hown : s.vm.findClass "com/example/urbana/urbana/protocol/Command" = some m.cls := findClass_of_methodNamed Bd.named
  have X0 : Stand p l e ({ frames := 0, cells := 0, slots := 0, locals := 0 } : Room) s m #[(.ref r2), (.int q0)] below meth c s₁ [] 0 0 := Stand.of_body Bd
  have e0 : s₁.heap = h0 := by rw [← hh, Bd.state]; rfl
  have N0 := Fr.nil n0
  have pre0 : ∀ t, Steps p.tables e below (s₁.setTop (mkF m 0 #[.val (.ref r2), .val (.int q0), .unset, .unset, .unset, .unset, .unset] [])) t → Steps p.tables e below (s₁.setTop (entryFrame m #[(.ref r2), (.int q0)] 7)) t := fun t k => castTop (own_ef2_RI m r2 q0) k
  obtain ⟨T1, X1, e1, st1⟩ := getF X0 hx hZ hown (host := "") (Or.inl (hw _ (List.mem_of_getElem? (i := 13) rfl))) Via.refl e0 F_r2_counts (g := (mkF m 3 #[.val (.ref r2), .val (.int q0), .val (.int (0 : Int32)), .unset, .unset, .unset, .unset] [(.ref r2)])) rfl rfl (hb hby own_d2_3)
  obtain ⟨fs, hr, hrun, hended, hW, hsame⟩ := X1.leave (v := some (.int (1 : Int32))) (fun h => by rw [Bd.returns] at h; cases h)
  refine ⟨_, _, pre0 _ ?_, hrun, hended, _, _, rfl, ?_, ⟨_, rfl⟩, hW, hsame.mono (by decide) (by decide)⟩
  · show Steps p.tables e below (s₁.setTop (mkF m 0 #[.val (.ref r2), .val (.int q0), .unset, .unset, .unset, .unset, .unset] [])) _
    refine XS.iconst X0.here hx rfl (hb hby own_d2_0) ?_
    show Steps p.tables e below (s₁.setTop (mkF m 1 #[.val (.ref r2), .val (.int q0), .unset, .unset, .unset, .unset, .unset] [(.int (0 : Int32))])) _
    refine XS.istoreN X0.here hx rfl (hb hby own_d2_1) rfl (l' := #[.val (.ref r2), .val (.int q0), .val (.int (0 : Int32)), .unset, .unset, .unset, .unset]) rfl ?_
    show Steps p.tables e below (s₁.setTop (mkF m 2 #[.val (.ref r2), .val (.int q0), .val (.int (0 : Int32)), .unset, .unset, .unset, .unset] [])) _
    refine XS.aloadN X0.here hx rfl (hb hby own_d2_2) rfl rfl ?_
    show Steps p.tables e below (s₁.setTop (mkF m 3 #[.val (.ref r2), .val (.int q0), .val (.int (0 : Int32)), .unset, .unset, .unset, .unset] [(.ref r2)])) _
    refine st1 _ ?_
    show Steps p.tables e below (T1.setTop (mkF m 6 #[.val (.ref r2), .val (.int q0), .val (.int (0 : Int32)), .unset, .unset, .unset, .unset] [(.ref r2_c)])) _
    refine XS.astoreN X1.here hx rfl (hb hby own_d2_6) rfl rfl (l' := #[.val (.ref r2), .val (.int q0), .val (.int (0 : Int32)), .val (.ref r2_c), .unset, .unset, .unset]) rfl ?_
    show Steps p.tables e below (T1.setTop (mkF m 7 #[.val (.ref r2), .val (.int q0), .val (.int (0 : Int32)), .val (.ref r2_c), .unset, .unset, .unset] [])) _
    refine XS.aloadN X1.here hx rfl (hb hby own_d2_7) rfl rfl ?_
    show Steps p.tables e below (T1.setTop (mkF m 8 #[.val (.ref r2), .val (.int q0), .val (.int (0 : Int32)), .val (.ref r2_c), .unset, .unset, .unset] [(.ref r2_c)])) _
    refine X1.arraylength hx (by rw [e1]; exact Ar_r2_c.1) (State.isArrayOf_alike hZ.alike Ar_r2_c.2.1) (g := (mkF m 8 #[.val (.ref r2), .val (.int q0), .val (.int (0 : Int32)), .val (.ref r2_c), .unset, .unset, .unset] [(.ref r2_c)])) rfl rfl (hb hby own_d2_8) _ ?_
    rw [len_of Sz_r2_c (by decide)]
    show Steps p.tables e below (T1.setTop (mkF m 9 #[.val (.ref r2), .val (.int q0), .val (.int (0 : Int32)), .val (.ref r2_c), .unset, .unset, .unset] [(.int (1 : Int32))])) _
    refine XS.istore X1.here hx rfl (hb hby own_d2_9) rfl (l' := #[.val (.ref r2), .val (.int q0), .val (.int (0 : Int32)), .val (.ref r2_c), .val (.int (1 : Int32)), .unset, .unset]) rfl ?_
    show Steps p.tables e below (T1.setTop (mkF m 11 #[.val (.ref r2), .val (.int q0), .val (.int (0 : Int32)), .val (.ref r2_c), .val (.int (1 : Int32)), .unset, .unset] [])) _
    refine XS.iconst X1.here hx rfl (hb hby own_d2_11) ?_
    show Steps p.tables e below (T1.setTop (mkF m 12 #[.val (.ref r2), .val (.int q0), .val (.int (0 : Int32)), .val (.ref r2_c), .val (.int (1 : Int32)), .unset, .unset] [(.int (0 : Int32))])) _
    refine XS.istore X1.here hx rfl (hb hby own_d2_12) rfl (l' := #[.val (.ref r2), .val (.int q0), .val (.int (0 : Int32)), .val (.ref r2_c), .val (.int (1 : Int32)), .val (.int (0 : Int32)), .unset]) rfl ?_
    show Steps p.tables e below (T1.setTop (mkF m 14 #[.val (.ref r2), .val (.int q0), .val (.int (0 : Int32)), .val (.ref r2_c), .val (.int (1 : Int32)), .val (.int (0 : Int32)), .unset] [])) _
    refine XS.iload X1.here hx rfl (hb hby own_d2_14) rfl ?_
    show Steps p.tables e below (T1.setTop (mkF m 16 #[.val (.ref r2), .val (.int q0), .val (.int (0 : Int32)), .val (.ref r2_c), .val (.int (1 : Int32)), .val (.int (0 : Int32)), .unset] [(.int (0 : Int32))])) _
    refine XS.iload X1.here hx rfl (hb hby own_d2_16) rfl ?_
    show Steps p.tables e below (T1.setTop (mkF m 18 #[.val (.ref r2), .val (.int q0), .val (.int (0 : Int32)), .val (.ref r2_c), .val (.int (1 : Int32)), .val (.int (0 : Int32)), .unset] [(.int (1 : Int32)), (.int (0 : Int32))])) _
    refine XS.icmpNo X1.here hx rfl (hb hby own_d2_18) rfl (tlt (by decide : (0 : Int32) < (1 : Int32))).2.1 ?_
    show Steps p.tables e below (T1.setTop (mkF m 21 #[.val (.ref r2), .val (.int q0), .val (.int (0 : Int32)), .val (.ref r2_c), .val (.int (1 : Int32)), .val (.int (0 : Int32)), .unset] [])) _
    refine XS.aloadN X1.here hx rfl (hb hby own_d2_21) rfl rfl ?_
    show Steps p.tables e below (T1.setTop (mkF m 22 #[.val (.ref r2), .val (.int q0), .val (.int (0 : Int32)), .val (.ref r2_c), .val (.int (1 : Int32)), .val (.int (0 : Int32)), .unset] [(.ref r2_c)])) _
    refine XS.iload X1.here hx rfl (hb hby own_d2_22) rfl ?_
    show Steps p.tables e below (T1.setTop (mkF m 24 #[.val (.ref r2), .val (.int q0), .val (.int (0 : Int32)), .val (.ref r2_c), .val (.int (1 : Int32)), .val (.int (0 : Int32)), .unset] [(.int (0 : Int32)), (.ref r2_c)])) _
    refine X1.iaload hx (j := (0 : Int32)) (v := (.int (1 : Int32))) (by rw [e1]; exact Ar_r2_c.1) (State.isArrayOf_alike hZ.alike Ar_r2_c.2.1) Ar_r2_c.2.2 (inb_of Sz_r2_c ⟨by decide, by decide⟩) El_r2_c_0 (g := (mkF m 24 #[.val (.ref r2), .val (.int q0), .val (.int (0 : Int32)), .val (.ref r2_c), .val (.int (1 : Int32)), .val (.int (0 : Int32)), .unset] [(.int (0 : Int32)), (.ref r2_c)])) rfl rfl (hb hby own_d2_24) _ ?_
    show Steps p.tables e below (T1.setTop (mkF m 25 #[.val (.ref r2), .val (.int q0), .val (.int (0 : Int32)), .val (.ref r2_c), .val (.int (1 : Int32)), .val (.int (0 : Int32)), .unset] [(.int (1 : Int32))])) _
    refine XS.istore X1.here hx rfl (hb hby own_d2_25) rfl (l' := #[.val (.ref r2), .val (.int q0), .val (.int (0 : Int32)), .val (.ref r2_c), .val (.int (1 : Int32)), .val (.int (0 : Int32)), .val (.int (1 : Int32))]) rfl ?_
    show Steps p.tables e below (T1.setTop (mkF m 27 #[.val (.ref r2), .val (.int q0), .val (.int (0 : Int32)), .val (.ref r2_c), .val (.int (1 : Int32)), .val (.int (0 : Int32)), .val (.int (1 : Int32))] [])) _
    refine XS.iloadN X1.here hx rfl (hb hby own_d2_27) rfl ?_
    show Steps p.tables e below (T1.setTop (mkF m 28 #[.val (.ref r2), .val (.int q0), .val (.int (0 : Int32)), .val (.ref r2_c), .val (.int (1 : Int32)), .val (.int (0 : Int32)), .val (.int (1 : Int32))] [(.int (0 : Int32))])) _
    refine XS.iload X1.here hx rfl (hb hby own_d2_28) rfl ?_
    show Steps p.tables e below (T1.setTop (mkF m 30 #[.val (.ref r2), .val (.int q0), .val (.int (0 : Int32)), .val (.ref r2_c), .val (.int (1 : Int32)), .val (.int (0 : Int32)), .val (.int (1 : Int32))] [(.int (1 : Int32)), (.int (0 : Int32))])) _
    refine XS.iloadN X1.here hx rfl (hb hby own_d2_30) rfl ?_
    show Steps p.tables e below (T1.setTop (mkF m 31 #[.val (.ref r2), .val (.int q0), .val (.int (0 : Int32)), .val (.ref r2_c), .val (.int (1 : Int32)), .val (.int (0 : Int32)), .val (.int (1 : Int32))] [(.int q0), (.int (1 : Int32)), (.int (0 : Int32))])) _
    refine XS.icmpNo X1.here hx rfl (hb hby own_d2_31) rfl (teq (h1.symm : (1 : Int32) = q0)).2 ?_
    show Steps p.tables e below (T1.setTop (mkF m 34 #[.val (.ref r2), .val (.int q0), .val (.int (0 : Int32)), .val (.ref r2_c), .val (.int (1 : Int32)), .val (.int (0 : Int32)), .val (.int (1 : Int32))] [(.int (0 : Int32))])) _
    refine XS.iconst X1.here hx rfl (hb hby own_d2_34) ?_
    show Steps p.tables e below (T1.setTop (mkF m 35 #[.val (.ref r2), .val (.int q0), .val (.int (0 : Int32)), .val (.ref r2_c), .val (.int (1 : Int32)), .val (.int (0 : Int32)), .val (.int (1 : Int32))] [(.int (1 : Int32)), (.int (0 : Int32))])) _
    refine XS.goto X1.here hx rfl (pc0 := 35) (pc' := 39) rfl (hb hby own_d2_35) (by decide) (by decide) ?_
    show Steps p.tables e below (T1.setTop (mkF m 39 #[.val (.ref r2), .val (.int q0), .val (.int (0 : Int32)), .val (.ref r2_c), .val (.int (1 : Int32)), .val (.int (0 : Int32)), .val (.int (1 : Int32))] [(.int (1 : Int32)), (.int (0 : Int32))])) _
    refine XS.ior X1.here hx rfl (hb hby own_d2_39) rfl ?_
    show Steps p.tables e below (T1.setTop (mkF m 40 #[.val (.ref r2), .val (.int q0), .val (.int (0 : Int32)), .val (.ref r2_c), .val (.int (1 : Int32)), .val (.int (0 : Int32)), .val (.int (1 : Int32))] [(.int ((0 : Int32) ||| (1 : Int32)))])) _
    rw [show ((0 : Int32) ||| (1 : Int32)) = (1 : Int32) from by decide]
    show Steps p.tables e below (T1.setTop (mkF m 40 #[.val (.ref r2), .val (.int q0), .val (.int (0 : Int32)), .val (.ref r2_c), .val (.int (1 : Int32)), .val (.int (0 : Int32)), .val (.int (1 : Int32))] [(.int (1 : Int32))])) _
    refine XS.istoreN X1.here hx rfl (hb hby own_d2_40) rfl (l' := #[.val (.ref r2), .val (.int q0), .val (.int (1 : Int32)), .val (.ref r2_c), .val (.int (1 : Int32)), .val (.int (0 : Int32)), .val (.int (1 : Int32))]) rfl ?_
    show Steps p.tables e below (T1.setTop (mkF m 41 #[.val (.ref r2), .val (.int q0), .val (.int (1 : Int32)), .val (.ref r2_c), .val (.int (1 : Int32)), .val (.int (0 : Int32)), .val (.int (1 : Int32))] [])) _
    refine XS.iinc X1.here hx rfl (hb hby own_d2_41) rfl (l' := #[.val (.ref r2), .val (.int q0), .val (.int (1 : Int32)), .val (.ref r2_c), .val (.int (1 : Int32)), .val (.int ((0 : Int32) + (1 : Int32))), .val (.int (1 : Int32))]) rfl ?_
    show Steps p.tables e below (T1.setTop (mkF m 44 #[.val (.ref r2), .val (.int q0), .val (.int (1 : Int32)), .val (.ref r2_c), .val (.int (1 : Int32)), .val (.int ((0 : Int32) + (1 : Int32))), .val (.int (1 : Int32))] [])) _
    rw [show ((0 : Int32) + (1 : Int32)) = (1 : Int32) from by decide]
    show Steps p.tables e below (T1.setTop (mkF m 44 #[.val (.ref r2), .val (.int q0), .val (.int (1 : Int32)), .val (.ref r2_c), .val (.int (1 : Int32)), .val (.int (1 : Int32)), .val (.int (1 : Int32))] [])) _
    refine XS.goto X1.here hx rfl (pc0 := 44) (pc' := 14) rfl (hb hby own_d2_44) (by decide) (by decide) ?_
    show Steps p.tables e below (T1.setTop (mkF m 14 #[.val (.ref r2), .val (.int q0), .val (.int (1 : Int32)), .val (.ref r2_c), .val (.int (1 : Int32)), .val (.int (1 : Int32)), .val (.int (1 : Int32))] [])) _
    refine XS.iload X1.here hx rfl (hb hby own_d2_14) rfl ?_
    show Steps p.tables e below (T1.setTop (mkF m 16 #[.val (.ref r2), .val (.int q0), .val (.int (1 : Int32)), .val (.ref r2_c), .val (.int (1 : Int32)), .val (.int (1 : Int32)), .val (.int (1 : Int32))] [(.int (1 : Int32))])) _
    refine XS.iload X1.here hx rfl (hb hby own_d2_16) rfl ?_
    show Steps p.tables e below (T1.setTop (mkF m 18 #[.val (.ref r2), .val (.int q0), .val (.int (1 : Int32)), .val (.ref r2_c), .val (.int (1 : Int32)), .val (.int (1 : Int32)), .val (.int (1 : Int32))] [(.int (1 : Int32)), (.int (1 : Int32))])) _
    refine XS.icmpYes X1.here hx rfl (pc0 := 18) (pc' := 47) rfl (hb hby own_d2_18) rfl (flt (by decide : ¬ ((1 : Int32) < (1 : Int32)))).2.1 (by decide) (by decide) ?_
    show Steps p.tables e below (T1.setTop (mkF m 47 #[.val (.ref r2), .val (.int q0), .val (.int (1 : Int32)), .val (.ref r2_c), .val (.int (1 : Int32)), .val (.int (1 : Int32)), .val (.int (1 : Int32))] [])) _
    refine XS.iloadN X1.here hx rfl (hb hby own_d2_47) rfl ?_
    show Steps p.tables e below (T1.setTop (mkF m 48 #[.val (.ref r2), .val (.int q0), .val (.int (1 : Int32)), .val (.ref r2_c), .val (.int (1 : Int32)), .val (.int (1 : Int32)), .val (.int (1 : Int32))] [(.int (1 : Int32))])) _
    exact retN X1 hx (t := .boolean) Bd.returns (by simp) (hb hby own_d2_48) hr
  · exact ⟨rfl, N0, e1⟩
theorem own_d3_35 : decode method_3_code 35 = .ok (.iload_n 0, 1) := by decide +kernel
theorem own_d3_36 : decode method_3_code 36 = .ok (.iconst 2, 1) := by decide +kernel
theorem own_d3_37 : decode method_3_code 37 = .ok (.if_icmp .ne 14, 3) := by decide +kernel
theorem own_d3_40 : decode method_3_code 40 = .ok (.iload_n 1, 1) := by decide +kernel
theorem own_d3_41 : decode method_3_code 41 = .ok (.iconst 1, 1) := by decide +kernel
theorem own_d3_42 : decode method_3_code 42 = .ok (.if_icmp .ne 7, 3) := by decide +kernel
theorem own_d3_45 : decode method_3_code 45 = .ok (.iconst 1, 1) := by decide +kernel
theorem own_d3_46 : decode method_3_code 46 = .ok (.goto 4, 3) := by decide +kernel
theorem own_d3_50 : decode method_3_code 50 = .ok (.ireturn, 1) := by decide +kernel
set_option maxRecDepth 65536 in
set_option maxHeartbeats 40000000 in
theorem own_r3_26 (l : Launch) (Z : State) (a0 : Array Value) (hw : ∀ d ∈ tables_1, d.before a0 Z = true) (ws : List Jvm.Cond) (r0 : Addr) (r1 : Addr) (r2 : Addr) (r3 : Addr) (r4 : Addr) (r5 : Addr) (r6 : Addr) (r7 : Addr) (r8 : Addr) (r0_c : Addr) (cl_r0_c : Cell) (r1_c : Addr) (cl_r1_c : Cell) (r2_c : Addr) (cl_r2_c : Cell) (r3_c : Addr) (cl_r3_c : Cell) (r4_c : Addr) (cl_r4_c : Cell) (r5_c : Addr) (cl_r5_c : Cell) (r6_c : Addr) (cl_r6_c : Cell) (r7_c : Addr) (cl_r7_c : Cell) (r8_c : Addr) (cl_r8_c : Cell) (h0 : Heap) (n0 : Nat) (Z0 : n0 ≤ h0.size) (F : own_W Z h0 r0 r1 r2 r3 r4 r5 r6 r7 r8 r0_c cl_r0_c r1_c cl_r1_c r2_c cl_r2_c r3_c cl_r3_c r4_c cl_r4_c r5_c cl_r5_c r6_c cl_r6_c r7_c cl_r7_c r8_c cl_r8_c) (q0 : Int32) (h1 : q0 = (1 : Int32)) :
    MetFree l (⟨"com/example/urbana/urbana/protocol/CommandTakesPinLaw", "expected", "(II)Z"⟩ : MethodName) (head1 (Jvm.Cond.code (⟨"com/example/urbana/urbana/protocol/CommandTakesPinLaw", "expected", "(II)Z"⟩ : MethodName) method_3_code 2 (some .boolean) :: ws) ({ frames := 0, cells := 0, slots := 0, locals := 0 } : Room)) (fun a U => a = #[(.int (2 : Int32)), (.int q0)] ∧ Z.Warmed39 U.vm ∧ U.heap = h0) (fun _ _ _ _ _ => True) (fun _ U o U' => ∃ v L, o = .returned v ∧ own_Q (.int (1 : Int32)) h0 n0 v U'.heap L ∧ FrameEnd U o U' L ({ frames := 0, cells := 0, slots := 0, locals := 0 } : Room).cells ({ frames := 0, cells := 0, slots := 0, locals := 0 } : Room).slots) := by
  obtain ⟨S_r0, E_r0, S_r1, E_r1, S_r2, E_r2, S_r3, E_r3, S_r4, E_r4, S_r5, E_r5, S_r6, E_r6, S_r7, E_r7, S_r8, E_r8, F_r0_counts, Ar_r0_c, F_r1_counts, Ar_r1_c, F_r2_counts, Ar_r2_c, F_r3_counts, Ar_r3_c, F_r4_counts, Ar_r4_c, F_r5_counts, Ar_r5_c, F_r6_counts, Ar_r6_c, F_r7_counts, Ar_r7_c, F_r8_counts, Ar_r8_c, Sz_r0_c, El_r0_c_0, Sz_r1_c, El_r1_c_0, El_r1_c_1, Sz_r2_c, El_r2_c_0, Sz_r3_c, Sz_r4_c, Sz_r5_c, Sz_r6_c, Sz_r7_c, Sz_r8_c⟩ := id F
  refine MetFree.of_bodySF (plainFor_of_name own_pn_CommandTakesPinLaw) hisR ?_
  intro p e s m args below meth c s₁ Bd hml0 hP hK
  obtain ⟨rfl, hZ, hh⟩ := hP
  have hx := Bd.exec
  have hby := Bd.bytes
  have hml : c.maxLocals = 2 := hml0
  have hown : s.vm.findClass "com/example/urbana/urbana/protocol/CommandTakesPinLaw" = some m.cls := findClass_of_methodNamed Bd.named
  have X0 : Stand p l e ({ frames := 0, cells := 0, slots := 0, locals := 0 } : Room) s m #[(.int (2 : Int32)), (.int q0)] below meth c s₁ [] 0 0 := Stand.of_body Bd
  have e0 : s₁.heap = h0 := by rw [← hh, Bd.state]; rfl
  have N0 := Fr.nil n0
  have pre0 : ∀ t, Steps p.tables e below (s₁.setTop (mkF m 0 #[.val (.int (2 : Int32)), .val (.int q0)] [])) t → Steps p.tables e below (s₁.setTop (entryFrame m #[(.int (2 : Int32)), (.int q0)] 2)) t := fun t k => castTop (own_ef3_II m (2 : Int32) q0) k
  obtain ⟨fs, hr, hrun, hended, hW, hsame⟩ := X0.leave (v := some (.int (1 : Int32))) (fun h => by rw [Bd.returns] at h; cases h)
  refine ⟨_, _, pre0 _ ?_, hrun, hended, _, _, rfl, ?_, ⟨_, rfl⟩, hW, hsame.mono (by decide) (by decide)⟩
  · show Steps p.tables e below (s₁.setTop (mkF m 0 #[.val (.int (2 : Int32)), .val (.int q0)] [])) _
    refine XS.iloadN X0.here hx rfl (hb hby own_d3_0) rfl ?_
    show Steps p.tables e below (s₁.setTop (mkF m 1 #[.val (.int (2 : Int32)), .val (.int q0)] [(.int (2 : Int32))])) _
    refine XS.ifYes X0.here hx rfl (pc0 := 1) (pc' := 15) rfl (hb hby own_d3_1) rfl ((if0 _ _).trans (feq (by decide : ¬ ((2 : Int32) = (0 : Int32)))).2) (by decide) (by decide) ?_
    show Steps p.tables e below (s₁.setTop (mkF m 15 #[.val (.int (2 : Int32)), .val (.int q0)] [])) _
    refine XS.iloadN X0.here hx rfl (hb hby own_d3_15) rfl ?_
    show Steps p.tables e below (s₁.setTop (mkF m 16 #[.val (.int (2 : Int32)), .val (.int q0)] [(.int (2 : Int32))])) _
    refine XS.iconst X0.here hx rfl (hb hby own_d3_16) ?_
    show Steps p.tables e below (s₁.setTop (mkF m 17 #[.val (.int (2 : Int32)), .val (.int q0)] [(.int (1 : Int32)), (.int (2 : Int32))])) _
    refine XS.icmpYes X0.here hx rfl (pc0 := 17) (pc' := 35) rfl (hb hby own_d3_17) rfl (feq (by decide : ¬ ((2 : Int32) = (1 : Int32)))).2 (by decide) (by decide) ?_
    show Steps p.tables e below (s₁.setTop (mkF m 35 #[.val (.int (2 : Int32)), .val (.int q0)] [])) _
    refine XS.iloadN X0.here hx rfl (hb hby own_d3_35) rfl ?_
    show Steps p.tables e below (s₁.setTop (mkF m 36 #[.val (.int (2 : Int32)), .val (.int q0)] [(.int (2 : Int32))])) _
    refine XS.iconst X0.here hx rfl (hb hby own_d3_36) ?_
    show Steps p.tables e below (s₁.setTop (mkF m 37 #[.val (.int (2 : Int32)), .val (.int q0)] [(.int (2 : Int32)), (.int (2 : Int32))])) _
    refine XS.icmpNo X0.here hx rfl (hb hby own_d3_37) rfl (teq (by decide : (2 : Int32) = (2 : Int32))).2 ?_
    show Steps p.tables e below (s₁.setTop (mkF m 40 #[.val (.int (2 : Int32)), .val (.int q0)] [])) _
    refine XS.iloadN X0.here hx rfl (hb hby own_d3_40) rfl ?_
    show Steps p.tables e below (s₁.setTop (mkF m 41 #[.val (.int (2 : Int32)), .val (.int q0)] [(.int q0)])) _
    refine XS.iconst X0.here hx rfl (hb hby own_d3_41) ?_
    show Steps p.tables e below (s₁.setTop (mkF m 42 #[.val (.int (2 : Int32)), .val (.int q0)] [(.int (1 : Int32)), (.int q0)])) _
    refine XS.icmpNo X0.here hx rfl (hb hby own_d3_42) rfl (teq (h1 : q0 = (1 : Int32))).2 ?_
    show Steps p.tables e below (s₁.setTop (mkF m 45 #[.val (.int (2 : Int32)), .val (.int q0)] [])) _
    refine XS.iconst X0.here hx rfl (hb hby own_d3_45) ?_
    show Steps p.tables e below (s₁.setTop (mkF m 46 #[.val (.int (2 : Int32)), .val (.int q0)] [(.int (1 : Int32))])) _
    refine XS.goto X0.here hx rfl (pc0 := 46) (pc' := 50) rfl (hb hby own_d3_46) (by decide) (by decide) ?_
    show Steps p.tables e below (s₁.setTop (mkF m 50 #[.val (.int (2 : Int32)), .val (.int q0)] [(.int (1 : Int32))])) _
    exact retN X0 hx (t := .boolean) Bd.returns (by simp) (hb hby own_d3_50) hr
  · exact ⟨rfl, N0, e0⟩
set_option maxRecDepth 65536 in
set_option maxHeartbeats 40000000 in
theorem own_r0_k2m0c0 (l : Launch) (Z : State) (a0 : Array Value) (hw : ∀ d ∈ tables_1, d.before a0 Z = true) (ws : List Jvm.Cond) (r0 : Addr) (r1 : Addr) (r2 : Addr) (r3 : Addr) (r4 : Addr) (r5 : Addr) (r6 : Addr) (r7 : Addr) (r8 : Addr) (r0_c : Addr) (cl_r0_c : Cell) (r1_c : Addr) (cl_r1_c : Cell) (r2_c : Addr) (cl_r2_c : Cell) (r3_c : Addr) (cl_r3_c : Cell) (r4_c : Addr) (cl_r4_c : Cell) (r5_c : Addr) (cl_r5_c : Cell) (r6_c : Addr) (cl_r6_c : Cell) (r7_c : Addr) (cl_r7_c : Cell) (r8_c : Addr) (cl_r8_c : Cell) (h0 : Heap) (n0 : Nat) (Z0 : n0 ≤ h0.size) (F : own_W Z h0 r0 r1 r2 r3 r4 r5 r6 r7 r8 r0_c cl_r0_c r1_c cl_r1_c r2_c cl_r2_c r3_c cl_r3_c r4_c cl_r4_c r5_c cl_r5_c r6_c cl_r6_c r7_c cl_r7_c r8_c cl_r8_c) (i0 : Int32) (i1 : Int32) (i2 : Int32) (hk : ((i0 &&& (2147483647 : Int32)) % (9 : Int32)) = (2 : Int32)) (hm : (i1 &&& (1 : Int32)) = (0 : Int32)) (h1 : i2 = (1 : Int32)) :
    MetFree l x (head1 (Jvm.Cond.code x code maxLocals ret :: ws) room_1) (fun a U => a = #[(.int i0), (.int i1), (.int i2)] ∧ Z.Warmed39 U.vm ∧ U.heap = h0) (fun _ _ _ _ _ => True) (fun _ U o U' => ∃ v L, o = .returned v ∧ own_Q (.int (1 : Int32)) h0 n0 v U'.heap L ∧ FrameEnd U o U' L room_1.cells room_1.slots) := by
  obtain ⟨S_r0, E_r0, S_r1, E_r1, S_r2, E_r2, S_r3, E_r3, S_r4, E_r4, S_r5, E_r5, S_r6, E_r6, S_r7, E_r7, S_r8, E_r8, F_r0_counts, Ar_r0_c, F_r1_counts, Ar_r1_c, F_r2_counts, Ar_r2_c, F_r3_counts, Ar_r3_c, F_r4_counts, Ar_r4_c, F_r5_counts, Ar_r5_c, F_r6_counts, Ar_r6_c, F_r7_counts, Ar_r7_c, F_r8_counts, Ar_r8_c, Sz_r0_c, El_r0_c_0, Sz_r1_c, El_r1_c_0, El_r1_c_1, Sz_r2_c, El_r2_c_0, Sz_r3_c, Sz_r4_c, Sz_r5_c, Sz_r6_c, Sz_r7_c, Sz_r8_c⟩ := id F
  refine MetFree.of_bodySF (plainFor_of_name own_pn_CommandTakesPinLaw) hisR ?_
  intro p e s m args below meth c s₁ Bd hml0 hP hK
  obtain ⟨rfl, hZ, hh⟩ := hP
  have hx := Bd.exec
  have hby := Bd.bytes
  have hml : c.maxLocals = 6 := hml0
  have hown : s.vm.findClass "com/example/urbana/urbana/protocol/CommandTakesPinLaw" = some m.cls := findClass_of_methodNamed Bd.named
  have X0 : Stand p l e room_1 s m #[(.int i0), (.int i1), (.int i2)] below meth c s₁ [] 0 0 := Stand.of_body Bd
  have e0 : s₁.heap = h0 := by rw [← hh, Bd.state]; rfl
  have N0 := Fr.nil n0
  have pre0 : ∀ t, Steps p.tables e below (s₁.setTop (mkF m 0 #[.val (.int i0), .val (.int i1), .val (.int i2), .unset, .unset, .unset] [])) t → Steps p.tables e below (s₁.setTop (entryFrame m #[(.int i0), (.int i1), (.int i2)] maxLocals)) t := fun t k => castTop (own_ef0_III m i0 i1 i2) k
  obtain ⟨_, _, ⟨T1, L1, k1, n1⟩, -, X1, ⟨Lc1, hQ1, l1, y1, z1⟩, st1⟩ := Jvm.LawKit.callS X0 hx (y := (⟨"com/example/urbana/urbana/protocol/CommandTakesPinLaw", "pick", "(I)Lcom/example/urbana/urbana/protocol/Command;"⟩ : MethodName)) hown (mvT hZ (hw _ (List.mem_of_getElem? (i := 1) rfl))) (mvT hZ (hw _ (List.mem_of_getElem? (i := 2) rfl))) (mvT hZ (hw _ (List.mem_of_getElem? (i := 3) rfl))) (mvT hZ (hw _ (List.mem_of_getElem? (i := 4) rfl))) (by decide) (backOf (W := 0) (own_r1_24 l Z a0 hw [] r0 r1 r2 r3 r4 r5 r6 r7 r8 r0_c cl_r0_c r1_c cl_r1_c r2_c cl_r2_c r3_c cl_r3_c r4_c cl_r4_c r5_c cl_r5_c r6_c cl_r6_c r7_c cl_r7_c r8_c cl_r8_c h0 n0 Z0 F ) hZ (hw _ (List.mem_of_getElem? (i := 4) rfl)) (hw _ (List.mem_of_getElem? (i := 3) rfl)) (by decide) (by decide)) (g := (mkF m 29 #[.val (.int i0), .val (.int i1), .val (.int i2), .val (.int (2 : Int32)), .val (.int i2), .unset] [(.int (2 : Int32))])) rfl (by rw [hml]; rfl) (argsL := [(.int (2 : Int32))]) (rest := []) (lenOf own_pd0 rfl) rfl (by show 2 * 0 + _ ≤ _; exact Nat.le_of_eq rfl) (hb hby at_29) (fun _ _ => ⟨rfl, e0, (by decide : 0 + 0 ≤ _), (by decide : 0 + 0 ≤ _)⟩)
  dsimp only [Pt.U, Pt.locs, Pt.cells, Pt.slots] at X1 l1 y1 z1 st1 hQ1
  subst l1 y1 z1
  obtain ⟨rfl, N1q, e1⟩ := hQ1
  have N1 := Fr.app N0 N1q
  obtain ⟨cq2, kq2, q2a, q2b, q2c⟩ := isOf hZ e1 E_r2
  obtain ⟨_, _, ⟨T2, L2, k2, n2⟩, -, X2, ⟨Lc2, hQ2, l2, y2, z2⟩, st2⟩ := X1.virtualBack hx (y := (⟨"com/example/urbana/urbana/protocol/Command", "takes", "(I)Z"⟩ : MethodName)) (z := (⟨"com/example/urbana/urbana/protocol/Command", "takes", "(I)Z"⟩ : MethodName)) hown (mvT hZ (hw _ (List.mem_of_getElem? (i := 8) rfl))) (mvT hZ (hw _ (List.mem_of_getElem? (i := 9) rfl))) (notFace_of_selects (args := #[]) (mvT hZ (hw _ (List.mem_of_getElem? (i := 11) rfl)))) (mvT hZ (hw _ (List.mem_of_getElem? (i := 11) rfl))) (mvT hZ (hw _ (List.mem_of_getElem? (i := 10) rfl))) (by decide) (backOf (W := 0) (own_r2_25 l Z a0 hw [] r0 r1 r2 r3 r4 r5 r6 r7 r8 r0_c cl_r0_c r1_c cl_r1_c r2_c cl_r2_c r3_c cl_r3_c r4_c cl_r4_c r5_c cl_r5_c r6_c cl_r6_c r7_c cl_r7_c r8_c cl_r8_c h0 n0 Z0 F i2 h1) hZ (hw _ (List.mem_of_getElem? (i := 12) rfl)) (hw _ (List.mem_of_getElem? (i := 6) rfl)) (by decide) (by decide)) q2a q2c (g := (mkF m 38 #[.val (.int i0), .val (.int i1), .val (.int i2), .val (.int (2 : Int32)), .val (.int i2), .val (.ref r2)] [(.int i2), (.ref r2)])) rfl (by rw [hml]; rfl) (Steps.refl _) (argsL := [(.int i2)]) (rest := []) (lenOf own_pd1 rfl) rfl (by show 2 * 0 + _ ≤ _; exact Nat.le_of_eq rfl) (hb hby at_38) (fun _ _ => ⟨rfl, e1, (by decide : 0 + 0 ≤ _), (by decide : 0 + 0 ≤ _)⟩)
  dsimp only [Pt.U, Pt.locs, Pt.cells, Pt.slots] at X2 l2 y2 z2 st2 hQ2
  subst l2 y2 z2
  obtain ⟨rfl, N2q, e2⟩ := hQ2
  have N2 := Fr.app N1 N2q
  obtain ⟨_, _, ⟨T3, L3, k3, n3⟩, -, X3, ⟨Lc3, hQ3, l3, y3, z3⟩, st3⟩ := Jvm.LawKit.callS X2 hx (y := (⟨"com/example/urbana/urbana/protocol/CommandTakesPinLaw", "expected", "(II)Z"⟩ : MethodName)) hown (mvT hZ (hw _ (List.mem_of_getElem? (i := 15) rfl))) (mvT hZ (hw _ (List.mem_of_getElem? (i := 16) rfl))) (mvT hZ (hw _ (List.mem_of_getElem? (i := 3) rfl))) (mvT hZ (hw _ (List.mem_of_getElem? (i := 17) rfl))) (by decide) (backOf (W := 1) (own_r3_26 l Z a0 hw [] r0 r1 r2 r3 r4 r5 r6 r7 r8 r0_c cl_r0_c r1_c cl_r1_c r2_c cl_r2_c r3_c cl_r3_c r4_c cl_r4_c r5_c cl_r5_c r6_c cl_r6_c r7_c cl_r7_c r8_c cl_r8_c h0 n0 Z0 F i2 h1) hZ (hw _ (List.mem_of_getElem? (i := 17) rfl)) (hw _ (List.mem_of_getElem? (i := 3) rfl)) (by decide) (by decide)) (g := (mkF m 44 #[.val (.int i0), .val (.int i1), .val (.int i2), .val (.int (2 : Int32)), .val (.int i2), .val (.ref r2)] [(.int i2), (.int (2 : Int32)), (.int (1 : Int32))])) rfl (by rw [hml]; rfl) (argsL := [(.int (2 : Int32)), (.int i2)]) (rest := [(.int (1 : Int32))]) (lenOf own_pd2 rfl) rfl (by show 2 * 0 + _ ≤ _; exact Nat.le_of_eq rfl) (hb hby at_44) (fun _ _ => ⟨rfl, e2, (by decide : 0 + 0 ≤ _), (by decide : 0 + 0 ≤ _)⟩)
  dsimp only [Pt.U, Pt.locs, Pt.cells, Pt.slots] at X3 l3 y3 z3 st3 hQ3
  subst l3 y3 z3
  obtain ⟨rfl, N3q, e3⟩ := hQ3
  have N3 := Fr.app N2 N3q
  obtain ⟨fs, hr, hrun, hended, hW, hsame⟩ := X3.leave (v := some (.int (1 : Int32))) (fun h => by rw [Bd.returns] at h; cases h)
  refine ⟨_, _, pre0 _ ?_, hrun, hended, _, _, rfl, ?_, ⟨_, rfl⟩, hW, hsame.mono (by decide) (by decide)⟩
  · show Steps p.tables e below (s₁.setTop (mkF m 0 #[.val (.int i0), .val (.int i1), .val (.int i2), .unset, .unset, .unset] [])) _
    refine XS.iloadN X0.here hx rfl (hb hby at_0) rfl ?_
    show Steps p.tables e below (s₁.setTop (mkF m 1 #[.val (.int i0), .val (.int i1), .val (.int i2), .unset, .unset, .unset] [(.int i0)])) _
    refine X0.ldcInt hx hown (mvT hZ (hw _ (List.mem_of_getElem? (i := 0) rfl))) (g := (mkF m 1 #[.val (.int i0), .val (.int i1), .val (.int i2), .unset, .unset, .unset] [(.int i0)])) rfl (hb hby at_1) _ ?_
    show Steps p.tables e below (s₁.setTop (mkF m 3 #[.val (.int i0), .val (.int i1), .val (.int i2), .unset, .unset, .unset] [(.int (2147483647 : Int32)), (.int i0)])) _
    refine XS.iand X0.here hx rfl (hb hby at_3) rfl ?_
    show Steps p.tables e below (s₁.setTop (mkF m 4 #[.val (.int i0), .val (.int i1), .val (.int i2), .unset, .unset, .unset] [(.int (i0 &&& (2147483647 : Int32)))])) _
    refine XS.bipush X0.here hx rfl (hb hby at_4) ?_
    show Steps p.tables e below (s₁.setTop (mkF m 6 #[.val (.int i0), .val (.int i1), .val (.int i2), .unset, .unset, .unset] [(.int (9 : Int32)), (.int (i0 &&& (2147483647 : Int32)))])) _
    refine iremM (g := (mkF m 6 #[.val (.int i0), .val (.int i1), .val (.int i2), .unset, .unset, .unset] [(.int (9 : Int32)), (.int (i0 &&& (2147483647 : Int32)))])) X0 hx rfl (hb hby at_6) rfl (by decide) ?_
    show Steps p.tables e below (s₁.setTop (mkF m 7 #[.val (.int i0), .val (.int i1), .val (.int i2), .unset, .unset, .unset] [(.int ((i0 &&& (2147483647 : Int32)) % (9 : Int32)))])) _
    rw [hk]
    show Steps p.tables e below (s₁.setTop (mkF m 7 #[.val (.int i0), .val (.int i1), .val (.int i2), .unset, .unset, .unset] [(.int (2 : Int32))])) _
    refine XS.istoreN X0.here hx rfl (hb hby at_7) rfl (l' := #[.val (.int i0), .val (.int i1), .val (.int i2), .val (.int (2 : Int32)), .unset, .unset]) rfl ?_
    show Steps p.tables e below (s₁.setTop (mkF m 8 #[.val (.int i0), .val (.int i1), .val (.int i2), .val (.int (2 : Int32)), .unset, .unset] [])) _
    refine XS.iloadN X0.here hx rfl (hb hby at_8) rfl ?_
    show Steps p.tables e below (s₁.setTop (mkF m 9 #[.val (.int i0), .val (.int i1), .val (.int i2), .val (.int (2 : Int32)), .unset, .unset] [(.int i1)])) _
    refine XS.iconst X0.here hx rfl (hb hby at_9) ?_
    show Steps p.tables e below (s₁.setTop (mkF m 10 #[.val (.int i0), .val (.int i1), .val (.int i2), .val (.int (2 : Int32)), .unset, .unset] [(.int (1 : Int32)), (.int i1)])) _
    refine XS.iand X0.here hx rfl (hb hby at_10) rfl ?_
    show Steps p.tables e below (s₁.setTop (mkF m 11 #[.val (.int i0), .val (.int i1), .val (.int i2), .val (.int (2 : Int32)), .unset, .unset] [(.int (i1 &&& (1 : Int32)))])) _
    rw [hm]
    show Steps p.tables e below (s₁.setTop (mkF m 11 #[.val (.int i0), .val (.int i1), .val (.int i2), .val (.int (2 : Int32)), .unset, .unset] [(.int (0 : Int32))])) _
    refine XS.ifYes X0.here hx rfl (pc0 := 11) (pc' := 25) rfl (hb hby at_11) rfl ((if0 _ _).trans (teq (by decide : (0 : Int32) = (0 : Int32))).1) (by decide) (by decide) ?_
    show Steps p.tables e below (s₁.setTop (mkF m 25 #[.val (.int i0), .val (.int i1), .val (.int i2), .val (.int (2 : Int32)), .unset, .unset] [])) _
    refine XS.iloadN X0.here hx rfl (hb hby at_25) rfl ?_
    show Steps p.tables e below (s₁.setTop (mkF m 26 #[.val (.int i0), .val (.int i1), .val (.int i2), .val (.int (2 : Int32)), .unset, .unset] [(.int i2)])) _
    refine XS.istore X0.here hx rfl (hb hby at_26) rfl (l' := #[.val (.int i0), .val (.int i1), .val (.int i2), .val (.int (2 : Int32)), .val (.int i2), .unset]) rfl ?_
    show Steps p.tables e below (s₁.setTop (mkF m 28 #[.val (.int i0), .val (.int i1), .val (.int i2), .val (.int (2 : Int32)), .val (.int i2), .unset] [])) _
    refine XS.iloadN X0.here hx rfl (hb hby at_28) rfl ?_
    show Steps p.tables e below (s₁.setTop (mkF m 29 #[.val (.int i0), .val (.int i1), .val (.int i2), .val (.int (2 : Int32)), .val (.int i2), .unset] [(.int (2 : Int32))])) _
    refine st1 _ ?_
    show Steps p.tables e below (T1.setTop (mkF m 32 #[.val (.int i0), .val (.int i1), .val (.int i2), .val (.int (2 : Int32)), .val (.int i2), .unset] [(.ref r2)])) _
    refine XS.astore X1.here hx rfl (hb hby at_32) rfl rfl (l' := #[.val (.int i0), .val (.int i1), .val (.int i2), .val (.int (2 : Int32)), .val (.int i2), .val (.ref r2)]) rfl ?_
    show Steps p.tables e below (T1.setTop (mkF m 34 #[.val (.int i0), .val (.int i1), .val (.int i2), .val (.int (2 : Int32)), .val (.int i2), .val (.ref r2)] [])) _
    refine XS.aload X1.here hx rfl (hb hby at_34) rfl rfl ?_
    show Steps p.tables e below (T1.setTop (mkF m 36 #[.val (.int i0), .val (.int i1), .val (.int i2), .val (.int (2 : Int32)), .val (.int i2), .val (.ref r2)] [(.ref r2)])) _
    refine XS.iload X1.here hx rfl (hb hby at_36) rfl ?_
    show Steps p.tables e below (T1.setTop (mkF m 38 #[.val (.int i0), .val (.int i1), .val (.int i2), .val (.int (2 : Int32)), .val (.int i2), .val (.ref r2)] [(.int i2), (.ref r2)])) _
    refine st2.trans ?_
    show Steps p.tables e below (T2.setTop (mkF m 41 #[.val (.int i0), .val (.int i1), .val (.int i2), .val (.int (2 : Int32)), .val (.int i2), .val (.ref r2)] [(.int (1 : Int32))])) _
    refine XS.iloadN X2.here hx rfl (hb hby at_41) rfl ?_
    show Steps p.tables e below (T2.setTop (mkF m 42 #[.val (.int i0), .val (.int i1), .val (.int i2), .val (.int (2 : Int32)), .val (.int i2), .val (.ref r2)] [(.int (2 : Int32)), (.int (1 : Int32))])) _
    refine XS.iload X2.here hx rfl (hb hby at_42) rfl ?_
    show Steps p.tables e below (T2.setTop (mkF m 44 #[.val (.int i0), .val (.int i1), .val (.int i2), .val (.int (2 : Int32)), .val (.int i2), .val (.ref r2)] [(.int i2), (.int (2 : Int32)), (.int (1 : Int32))])) _
    refine st3 _ ?_
    show Steps p.tables e below (T3.setTop (mkF m 47 #[.val (.int i0), .val (.int i1), .val (.int i2), .val (.int (2 : Int32)), .val (.int i2), .val (.ref r2)] [(.int (1 : Int32)), (.int (1 : Int32))])) _
    refine XS.icmpNo X3.here hx rfl (hb hby at_47) rfl (teq (by decide : (1 : Int32) = (1 : Int32))).2 ?_
    show Steps p.tables e below (T3.setTop (mkF m 50 #[.val (.int i0), .val (.int i1), .val (.int i2), .val (.int (2 : Int32)), .val (.int i2), .val (.ref r2)] [])) _
    refine XS.iconst X3.here hx rfl (hb hby at_50) ?_
    show Steps p.tables e below (T3.setTop (mkF m 51 #[.val (.int i0), .val (.int i1), .val (.int i2), .val (.int (2 : Int32)), .val (.int i2), .val (.ref r2)] [(.int (1 : Int32))])) _
    refine XS.goto X3.here hx rfl (pc0 := 51) (pc' := 55) rfl (hb hby at_51) (by decide) (by decide) ?_
    show Steps p.tables e below (T3.setTop (mkF m 55 #[.val (.int i0), .val (.int i1), .val (.int i2), .val (.int (2 : Int32)), .val (.int i2), .val (.ref r2)] [(.int (1 : Int32))])) _
    exact retN X3 hx (t := .boolean) Bd.returns (by simp) (hb hby at_55) hr
  · exact ⟨rfl, N3, e3⟩
set_option maxRecDepth 65536 in
set_option maxHeartbeats 40000000 in
theorem own_r2_28 (l : Launch) (Z : State) (a0 : Array Value) (hw : ∀ d ∈ tables_1, d.before a0 Z = true) (ws : List Jvm.Cond) (r0 : Addr) (r1 : Addr) (r2 : Addr) (r3 : Addr) (r4 : Addr) (r5 : Addr) (r6 : Addr) (r7 : Addr) (r8 : Addr) (r0_c : Addr) (cl_r0_c : Cell) (r1_c : Addr) (cl_r1_c : Cell) (r2_c : Addr) (cl_r2_c : Cell) (r3_c : Addr) (cl_r3_c : Cell) (r4_c : Addr) (cl_r4_c : Cell) (r5_c : Addr) (cl_r5_c : Cell) (r6_c : Addr) (cl_r6_c : Cell) (r7_c : Addr) (cl_r7_c : Cell) (r8_c : Addr) (cl_r8_c : Cell) (h0 : Heap) (n0 : Nat) (Z0 : n0 ≤ h0.size) (F : own_W Z h0 r0 r1 r2 r3 r4 r5 r6 r7 r8 r0_c cl_r0_c r1_c cl_r1_c r2_c cl_r2_c r3_c cl_r3_c r4_c cl_r4_c r5_c cl_r5_c r6_c cl_r6_c r7_c cl_r7_c r8_c cl_r8_c) (q0 : Int32) (h1 : ¬ (q0 = (1 : Int32))) :
    MetFree l (⟨"com/example/urbana/urbana/protocol/Command", "takes", "(I)Z"⟩ : MethodName) (head1 (Jvm.Cond.code (⟨"com/example/urbana/urbana/protocol/Command", "takes", "(I)Z"⟩ : MethodName) prog_2_method_8_code 7 (some .boolean) :: ws) ({ frames := 0, cells := 0, slots := 0, locals := 0 } : Room)) (fun a U => a = #[(.ref r2), (.int q0)] ∧ Z.Warmed39 U.vm ∧ U.heap = h0) (fun _ _ _ _ _ => True) (fun _ U o U' => ∃ v L, o = .returned v ∧ own_Q (.int (0 : Int32)) h0 n0 v U'.heap L ∧ FrameEnd U o U' L ({ frames := 0, cells := 0, slots := 0, locals := 0 } : Room).cells ({ frames := 0, cells := 0, slots := 0, locals := 0 } : Room).slots) := by
  obtain ⟨S_r0, E_r0, S_r1, E_r1, S_r2, E_r2, S_r3, E_r3, S_r4, E_r4, S_r5, E_r5, S_r6, E_r6, S_r7, E_r7, S_r8, E_r8, F_r0_counts, Ar_r0_c, F_r1_counts, Ar_r1_c, F_r2_counts, Ar_r2_c, F_r3_counts, Ar_r3_c, F_r4_counts, Ar_r4_c, F_r5_counts, Ar_r5_c, F_r6_counts, Ar_r6_c, F_r7_counts, Ar_r7_c, F_r8_counts, Ar_r8_c, Sz_r0_c, El_r0_c_0, Sz_r1_c, El_r1_c_0, El_r1_c_1, Sz_r2_c, El_r2_c_0, Sz_r3_c, Sz_r4_c, Sz_r5_c, Sz_r6_c, Sz_r7_c, Sz_r8_c⟩ := id F
  refine MetFree.of_bodySF (plainFor_of_name own_pn_Command) hisR ?_
  intro p e s m args below meth c s₁ Bd hml0 hP hK
  obtain ⟨rfl, hZ, hh⟩ := hP
  have hx := Bd.exec
  have hby := Bd.bytes
  have hml : c.maxLocals = 7 := hml0
  have hown : s.vm.findClass "com/example/urbana/urbana/protocol/Command" = some m.cls := findClass_of_methodNamed Bd.named
  have X0 : Stand p l e ({ frames := 0, cells := 0, slots := 0, locals := 0 } : Room) s m #[(.ref r2), (.int q0)] below meth c s₁ [] 0 0 := Stand.of_body Bd
  have e0 : s₁.heap = h0 := by rw [← hh, Bd.state]; rfl
  have N0 := Fr.nil n0
  have pre0 : ∀ t, Steps p.tables e below (s₁.setTop (mkF m 0 #[.val (.ref r2), .val (.int q0), .unset, .unset, .unset, .unset, .unset] [])) t → Steps p.tables e below (s₁.setTop (entryFrame m #[(.ref r2), (.int q0)] 7)) t := fun t k => castTop (own_ef2_RI m r2 q0) k
  obtain ⟨T1, X1, e1, st1⟩ := getF X0 hx hZ hown (host := "") (Or.inl (hw _ (List.mem_of_getElem? (i := 13) rfl))) Via.refl e0 F_r2_counts (g := (mkF m 3 #[.val (.ref r2), .val (.int q0), .val (.int (0 : Int32)), .unset, .unset, .unset, .unset] [(.ref r2)])) rfl rfl (hb hby own_d2_3)
  obtain ⟨fs, hr, hrun, hended, hW, hsame⟩ := X1.leave (v := some (.int (0 : Int32))) (fun h => by rw [Bd.returns] at h; cases h)
  refine ⟨_, _, pre0 _ ?_, hrun, hended, _, _, rfl, ?_, ⟨_, rfl⟩, hW, hsame.mono (by decide) (by decide)⟩
  · show Steps p.tables e below (s₁.setTop (mkF m 0 #[.val (.ref r2), .val (.int q0), .unset, .unset, .unset, .unset, .unset] [])) _
    refine XS.iconst X0.here hx rfl (hb hby own_d2_0) ?_
    show Steps p.tables e below (s₁.setTop (mkF m 1 #[.val (.ref r2), .val (.int q0), .unset, .unset, .unset, .unset, .unset] [(.int (0 : Int32))])) _
    refine XS.istoreN X0.here hx rfl (hb hby own_d2_1) rfl (l' := #[.val (.ref r2), .val (.int q0), .val (.int (0 : Int32)), .unset, .unset, .unset, .unset]) rfl ?_
    show Steps p.tables e below (s₁.setTop (mkF m 2 #[.val (.ref r2), .val (.int q0), .val (.int (0 : Int32)), .unset, .unset, .unset, .unset] [])) _
    refine XS.aloadN X0.here hx rfl (hb hby own_d2_2) rfl rfl ?_
    show Steps p.tables e below (s₁.setTop (mkF m 3 #[.val (.ref r2), .val (.int q0), .val (.int (0 : Int32)), .unset, .unset, .unset, .unset] [(.ref r2)])) _
    refine st1 _ ?_
    show Steps p.tables e below (T1.setTop (mkF m 6 #[.val (.ref r2), .val (.int q0), .val (.int (0 : Int32)), .unset, .unset, .unset, .unset] [(.ref r2_c)])) _
    refine XS.astoreN X1.here hx rfl (hb hby own_d2_6) rfl rfl (l' := #[.val (.ref r2), .val (.int q0), .val (.int (0 : Int32)), .val (.ref r2_c), .unset, .unset, .unset]) rfl ?_
    show Steps p.tables e below (T1.setTop (mkF m 7 #[.val (.ref r2), .val (.int q0), .val (.int (0 : Int32)), .val (.ref r2_c), .unset, .unset, .unset] [])) _
    refine XS.aloadN X1.here hx rfl (hb hby own_d2_7) rfl rfl ?_
    show Steps p.tables e below (T1.setTop (mkF m 8 #[.val (.ref r2), .val (.int q0), .val (.int (0 : Int32)), .val (.ref r2_c), .unset, .unset, .unset] [(.ref r2_c)])) _
    refine X1.arraylength hx (by rw [e1]; exact Ar_r2_c.1) (State.isArrayOf_alike hZ.alike Ar_r2_c.2.1) (g := (mkF m 8 #[.val (.ref r2), .val (.int q0), .val (.int (0 : Int32)), .val (.ref r2_c), .unset, .unset, .unset] [(.ref r2_c)])) rfl rfl (hb hby own_d2_8) _ ?_
    rw [len_of Sz_r2_c (by decide)]
    show Steps p.tables e below (T1.setTop (mkF m 9 #[.val (.ref r2), .val (.int q0), .val (.int (0 : Int32)), .val (.ref r2_c), .unset, .unset, .unset] [(.int (1 : Int32))])) _
    refine XS.istore X1.here hx rfl (hb hby own_d2_9) rfl (l' := #[.val (.ref r2), .val (.int q0), .val (.int (0 : Int32)), .val (.ref r2_c), .val (.int (1 : Int32)), .unset, .unset]) rfl ?_
    show Steps p.tables e below (T1.setTop (mkF m 11 #[.val (.ref r2), .val (.int q0), .val (.int (0 : Int32)), .val (.ref r2_c), .val (.int (1 : Int32)), .unset, .unset] [])) _
    refine XS.iconst X1.here hx rfl (hb hby own_d2_11) ?_
    show Steps p.tables e below (T1.setTop (mkF m 12 #[.val (.ref r2), .val (.int q0), .val (.int (0 : Int32)), .val (.ref r2_c), .val (.int (1 : Int32)), .unset, .unset] [(.int (0 : Int32))])) _
    refine XS.istore X1.here hx rfl (hb hby own_d2_12) rfl (l' := #[.val (.ref r2), .val (.int q0), .val (.int (0 : Int32)), .val (.ref r2_c), .val (.int (1 : Int32)), .val (.int (0 : Int32)), .unset]) rfl ?_
    show Steps p.tables e below (T1.setTop (mkF m 14 #[.val (.ref r2), .val (.int q0), .val (.int (0 : Int32)), .val (.ref r2_c), .val (.int (1 : Int32)), .val (.int (0 : Int32)), .unset] [])) _
    refine XS.iload X1.here hx rfl (hb hby own_d2_14) rfl ?_
    show Steps p.tables e below (T1.setTop (mkF m 16 #[.val (.ref r2), .val (.int q0), .val (.int (0 : Int32)), .val (.ref r2_c), .val (.int (1 : Int32)), .val (.int (0 : Int32)), .unset] [(.int (0 : Int32))])) _
    refine XS.iload X1.here hx rfl (hb hby own_d2_16) rfl ?_
    show Steps p.tables e below (T1.setTop (mkF m 18 #[.val (.ref r2), .val (.int q0), .val (.int (0 : Int32)), .val (.ref r2_c), .val (.int (1 : Int32)), .val (.int (0 : Int32)), .unset] [(.int (1 : Int32)), (.int (0 : Int32))])) _
    refine XS.icmpNo X1.here hx rfl (hb hby own_d2_18) rfl (tlt (by decide : (0 : Int32) < (1 : Int32))).2.1 ?_
    show Steps p.tables e below (T1.setTop (mkF m 21 #[.val (.ref r2), .val (.int q0), .val (.int (0 : Int32)), .val (.ref r2_c), .val (.int (1 : Int32)), .val (.int (0 : Int32)), .unset] [])) _
    refine XS.aloadN X1.here hx rfl (hb hby own_d2_21) rfl rfl ?_
    show Steps p.tables e below (T1.setTop (mkF m 22 #[.val (.ref r2), .val (.int q0), .val (.int (0 : Int32)), .val (.ref r2_c), .val (.int (1 : Int32)), .val (.int (0 : Int32)), .unset] [(.ref r2_c)])) _
    refine XS.iload X1.here hx rfl (hb hby own_d2_22) rfl ?_
    show Steps p.tables e below (T1.setTop (mkF m 24 #[.val (.ref r2), .val (.int q0), .val (.int (0 : Int32)), .val (.ref r2_c), .val (.int (1 : Int32)), .val (.int (0 : Int32)), .unset] [(.int (0 : Int32)), (.ref r2_c)])) _
    refine X1.iaload hx (j := (0 : Int32)) (v := (.int (1 : Int32))) (by rw [e1]; exact Ar_r2_c.1) (State.isArrayOf_alike hZ.alike Ar_r2_c.2.1) Ar_r2_c.2.2 (inb_of Sz_r2_c ⟨by decide, by decide⟩) El_r2_c_0 (g := (mkF m 24 #[.val (.ref r2), .val (.int q0), .val (.int (0 : Int32)), .val (.ref r2_c), .val (.int (1 : Int32)), .val (.int (0 : Int32)), .unset] [(.int (0 : Int32)), (.ref r2_c)])) rfl rfl (hb hby own_d2_24) _ ?_
    show Steps p.tables e below (T1.setTop (mkF m 25 #[.val (.ref r2), .val (.int q0), .val (.int (0 : Int32)), .val (.ref r2_c), .val (.int (1 : Int32)), .val (.int (0 : Int32)), .unset] [(.int (1 : Int32))])) _
    refine XS.istore X1.here hx rfl (hb hby own_d2_25) rfl (l' := #[.val (.ref r2), .val (.int q0), .val (.int (0 : Int32)), .val (.ref r2_c), .val (.int (1 : Int32)), .val (.int (0 : Int32)), .val (.int (1 : Int32))]) rfl ?_
    show Steps p.tables e below (T1.setTop (mkF m 27 #[.val (.ref r2), .val (.int q0), .val (.int (0 : Int32)), .val (.ref r2_c), .val (.int (1 : Int32)), .val (.int (0 : Int32)), .val (.int (1 : Int32))] [])) _
    refine XS.iloadN X1.here hx rfl (hb hby own_d2_27) rfl ?_
    show Steps p.tables e below (T1.setTop (mkF m 28 #[.val (.ref r2), .val (.int q0), .val (.int (0 : Int32)), .val (.ref r2_c), .val (.int (1 : Int32)), .val (.int (0 : Int32)), .val (.int (1 : Int32))] [(.int (0 : Int32))])) _
    refine XS.iload X1.here hx rfl (hb hby own_d2_28) rfl ?_
    show Steps p.tables e below (T1.setTop (mkF m 30 #[.val (.ref r2), .val (.int q0), .val (.int (0 : Int32)), .val (.ref r2_c), .val (.int (1 : Int32)), .val (.int (0 : Int32)), .val (.int (1 : Int32))] [(.int (1 : Int32)), (.int (0 : Int32))])) _
    refine XS.iloadN X1.here hx rfl (hb hby own_d2_30) rfl ?_
    show Steps p.tables e below (T1.setTop (mkF m 31 #[.val (.ref r2), .val (.int q0), .val (.int (0 : Int32)), .val (.ref r2_c), .val (.int (1 : Int32)), .val (.int (0 : Int32)), .val (.int (1 : Int32))] [(.int q0), (.int (1 : Int32)), (.int (0 : Int32))])) _
    refine XS.icmpYes X1.here hx rfl (pc0 := 31) (pc' := 38) rfl (hb hby own_d2_31) rfl (feq ((Ne.symm h1) : ¬ ((1 : Int32) = q0))).2 (by decide) (by decide) ?_
    show Steps p.tables e below (T1.setTop (mkF m 38 #[.val (.ref r2), .val (.int q0), .val (.int (0 : Int32)), .val (.ref r2_c), .val (.int (1 : Int32)), .val (.int (0 : Int32)), .val (.int (1 : Int32))] [(.int (0 : Int32))])) _
    refine XS.iconst X1.here hx rfl (hb hby own_d2_38) ?_
    show Steps p.tables e below (T1.setTop (mkF m 39 #[.val (.ref r2), .val (.int q0), .val (.int (0 : Int32)), .val (.ref r2_c), .val (.int (1 : Int32)), .val (.int (0 : Int32)), .val (.int (1 : Int32))] [(.int (0 : Int32)), (.int (0 : Int32))])) _
    refine XS.ior X1.here hx rfl (hb hby own_d2_39) rfl ?_
    show Steps p.tables e below (T1.setTop (mkF m 40 #[.val (.ref r2), .val (.int q0), .val (.int (0 : Int32)), .val (.ref r2_c), .val (.int (1 : Int32)), .val (.int (0 : Int32)), .val (.int (1 : Int32))] [(.int ((0 : Int32) ||| (0 : Int32)))])) _
    rw [show ((0 : Int32) ||| (0 : Int32)) = (0 : Int32) from by decide]
    show Steps p.tables e below (T1.setTop (mkF m 40 #[.val (.ref r2), .val (.int q0), .val (.int (0 : Int32)), .val (.ref r2_c), .val (.int (1 : Int32)), .val (.int (0 : Int32)), .val (.int (1 : Int32))] [(.int (0 : Int32))])) _
    refine XS.istoreN X1.here hx rfl (hb hby own_d2_40) rfl (l' := #[.val (.ref r2), .val (.int q0), .val (.int (0 : Int32)), .val (.ref r2_c), .val (.int (1 : Int32)), .val (.int (0 : Int32)), .val (.int (1 : Int32))]) rfl ?_
    show Steps p.tables e below (T1.setTop (mkF m 41 #[.val (.ref r2), .val (.int q0), .val (.int (0 : Int32)), .val (.ref r2_c), .val (.int (1 : Int32)), .val (.int (0 : Int32)), .val (.int (1 : Int32))] [])) _
    refine XS.iinc X1.here hx rfl (hb hby own_d2_41) rfl (l' := #[.val (.ref r2), .val (.int q0), .val (.int (0 : Int32)), .val (.ref r2_c), .val (.int (1 : Int32)), .val (.int ((0 : Int32) + (1 : Int32))), .val (.int (1 : Int32))]) rfl ?_
    show Steps p.tables e below (T1.setTop (mkF m 44 #[.val (.ref r2), .val (.int q0), .val (.int (0 : Int32)), .val (.ref r2_c), .val (.int (1 : Int32)), .val (.int ((0 : Int32) + (1 : Int32))), .val (.int (1 : Int32))] [])) _
    rw [show ((0 : Int32) + (1 : Int32)) = (1 : Int32) from by decide]
    show Steps p.tables e below (T1.setTop (mkF m 44 #[.val (.ref r2), .val (.int q0), .val (.int (0 : Int32)), .val (.ref r2_c), .val (.int (1 : Int32)), .val (.int (1 : Int32)), .val (.int (1 : Int32))] [])) _
    refine XS.goto X1.here hx rfl (pc0 := 44) (pc' := 14) rfl (hb hby own_d2_44) (by decide) (by decide) ?_
    show Steps p.tables e below (T1.setTop (mkF m 14 #[.val (.ref r2), .val (.int q0), .val (.int (0 : Int32)), .val (.ref r2_c), .val (.int (1 : Int32)), .val (.int (1 : Int32)), .val (.int (1 : Int32))] [])) _
    refine XS.iload X1.here hx rfl (hb hby own_d2_14) rfl ?_
    show Steps p.tables e below (T1.setTop (mkF m 16 #[.val (.ref r2), .val (.int q0), .val (.int (0 : Int32)), .val (.ref r2_c), .val (.int (1 : Int32)), .val (.int (1 : Int32)), .val (.int (1 : Int32))] [(.int (1 : Int32))])) _
    refine XS.iload X1.here hx rfl (hb hby own_d2_16) rfl ?_
    show Steps p.tables e below (T1.setTop (mkF m 18 #[.val (.ref r2), .val (.int q0), .val (.int (0 : Int32)), .val (.ref r2_c), .val (.int (1 : Int32)), .val (.int (1 : Int32)), .val (.int (1 : Int32))] [(.int (1 : Int32)), (.int (1 : Int32))])) _
    refine XS.icmpYes X1.here hx rfl (pc0 := 18) (pc' := 47) rfl (hb hby own_d2_18) rfl (flt (by decide : ¬ ((1 : Int32) < (1 : Int32)))).2.1 (by decide) (by decide) ?_
    show Steps p.tables e below (T1.setTop (mkF m 47 #[.val (.ref r2), .val (.int q0), .val (.int (0 : Int32)), .val (.ref r2_c), .val (.int (1 : Int32)), .val (.int (1 : Int32)), .val (.int (1 : Int32))] [])) _
    refine XS.iloadN X1.here hx rfl (hb hby own_d2_47) rfl ?_
    show Steps p.tables e below (T1.setTop (mkF m 48 #[.val (.ref r2), .val (.int q0), .val (.int (0 : Int32)), .val (.ref r2_c), .val (.int (1 : Int32)), .val (.int (1 : Int32)), .val (.int (1 : Int32))] [(.int (0 : Int32))])) _
    exact retN X1 hx (t := .boolean) Bd.returns (by simp) (hb hby own_d2_48) hr
  · exact ⟨rfl, N0, e1⟩
theorem own_d3_49 : decode method_3_code 49 = .ok (.iconst 0, 1) := by decide +kernel
set_option maxRecDepth 65536 in
set_option maxHeartbeats 40000000 in
theorem own_r3_29 (l : Launch) (Z : State) (a0 : Array Value) (hw : ∀ d ∈ tables_1, d.before a0 Z = true) (ws : List Jvm.Cond) (r0 : Addr) (r1 : Addr) (r2 : Addr) (r3 : Addr) (r4 : Addr) (r5 : Addr) (r6 : Addr) (r7 : Addr) (r8 : Addr) (r0_c : Addr) (cl_r0_c : Cell) (r1_c : Addr) (cl_r1_c : Cell) (r2_c : Addr) (cl_r2_c : Cell) (r3_c : Addr) (cl_r3_c : Cell) (r4_c : Addr) (cl_r4_c : Cell) (r5_c : Addr) (cl_r5_c : Cell) (r6_c : Addr) (cl_r6_c : Cell) (r7_c : Addr) (cl_r7_c : Cell) (r8_c : Addr) (cl_r8_c : Cell) (h0 : Heap) (n0 : Nat) (Z0 : n0 ≤ h0.size) (F : own_W Z h0 r0 r1 r2 r3 r4 r5 r6 r7 r8 r0_c cl_r0_c r1_c cl_r1_c r2_c cl_r2_c r3_c cl_r3_c r4_c cl_r4_c r5_c cl_r5_c r6_c cl_r6_c r7_c cl_r7_c r8_c cl_r8_c) (q0 : Int32) (h1 : ¬ (q0 = (1 : Int32))) :
    MetFree l (⟨"com/example/urbana/urbana/protocol/CommandTakesPinLaw", "expected", "(II)Z"⟩ : MethodName) (head1 (Jvm.Cond.code (⟨"com/example/urbana/urbana/protocol/CommandTakesPinLaw", "expected", "(II)Z"⟩ : MethodName) method_3_code 2 (some .boolean) :: ws) ({ frames := 0, cells := 0, slots := 0, locals := 0 } : Room)) (fun a U => a = #[(.int (2 : Int32)), (.int q0)] ∧ Z.Warmed39 U.vm ∧ U.heap = h0) (fun _ _ _ _ _ => True) (fun _ U o U' => ∃ v L, o = .returned v ∧ own_Q (.int (0 : Int32)) h0 n0 v U'.heap L ∧ FrameEnd U o U' L ({ frames := 0, cells := 0, slots := 0, locals := 0 } : Room).cells ({ frames := 0, cells := 0, slots := 0, locals := 0 } : Room).slots) := by
  obtain ⟨S_r0, E_r0, S_r1, E_r1, S_r2, E_r2, S_r3, E_r3, S_r4, E_r4, S_r5, E_r5, S_r6, E_r6, S_r7, E_r7, S_r8, E_r8, F_r0_counts, Ar_r0_c, F_r1_counts, Ar_r1_c, F_r2_counts, Ar_r2_c, F_r3_counts, Ar_r3_c, F_r4_counts, Ar_r4_c, F_r5_counts, Ar_r5_c, F_r6_counts, Ar_r6_c, F_r7_counts, Ar_r7_c, F_r8_counts, Ar_r8_c, Sz_r0_c, El_r0_c_0, Sz_r1_c, El_r1_c_0, El_r1_c_1, Sz_r2_c, El_r2_c_0, Sz_r3_c, Sz_r4_c, Sz_r5_c, Sz_r6_c, Sz_r7_c, Sz_r8_c⟩ := id F
  refine MetFree.of_bodySF (plainFor_of_name own_pn_CommandTakesPinLaw) hisR ?_
  intro p e s m args below meth c s₁ Bd hml0 hP hK
  obtain ⟨rfl, hZ, hh⟩ := hP
  have hx := Bd.exec
  have hby := Bd.bytes
  have hml : c.maxLocals = 2 := hml0
  have hown : s.vm.findClass "com/example/urbana/urbana/protocol/CommandTakesPinLaw" = some m.cls := findClass_of_methodNamed Bd.named
  have X0 : Stand p l e ({ frames := 0, cells := 0, slots := 0, locals := 0 } : Room) s m #[(.int (2 : Int32)), (.int q0)] below meth c s₁ [] 0 0 := Stand.of_body Bd
  have e0 : s₁.heap = h0 := by rw [← hh, Bd.state]; rfl
  have N0 := Fr.nil n0
  have pre0 : ∀ t, Steps p.tables e below (s₁.setTop (mkF m 0 #[.val (.int (2 : Int32)), .val (.int q0)] [])) t → Steps p.tables e below (s₁.setTop (entryFrame m #[(.int (2 : Int32)), (.int q0)] 2)) t := fun t k => castTop (own_ef3_II m (2 : Int32) q0) k
  obtain ⟨fs, hr, hrun, hended, hW, hsame⟩ := X0.leave (v := some (.int (0 : Int32))) (fun h => by rw [Bd.returns] at h; cases h)
  refine ⟨_, _, pre0 _ ?_, hrun, hended, _, _, rfl, ?_, ⟨_, rfl⟩, hW, hsame.mono (by decide) (by decide)⟩
  · show Steps p.tables e below (s₁.setTop (mkF m 0 #[.val (.int (2 : Int32)), .val (.int q0)] [])) _
    refine XS.iloadN X0.here hx rfl (hb hby own_d3_0) rfl ?_
    show Steps p.tables e below (s₁.setTop (mkF m 1 #[.val (.int (2 : Int32)), .val (.int q0)] [(.int (2 : Int32))])) _
    refine XS.ifYes X0.here hx rfl (pc0 := 1) (pc' := 15) rfl (hb hby own_d3_1) rfl ((if0 _ _).trans (feq (by decide : ¬ ((2 : Int32) = (0 : Int32)))).2) (by decide) (by decide) ?_
    show Steps p.tables e below (s₁.setTop (mkF m 15 #[.val (.int (2 : Int32)), .val (.int q0)] [])) _
    refine XS.iloadN X0.here hx rfl (hb hby own_d3_15) rfl ?_
    show Steps p.tables e below (s₁.setTop (mkF m 16 #[.val (.int (2 : Int32)), .val (.int q0)] [(.int (2 : Int32))])) _
    refine XS.iconst X0.here hx rfl (hb hby own_d3_16) ?_
    show Steps p.tables e below (s₁.setTop (mkF m 17 #[.val (.int (2 : Int32)), .val (.int q0)] [(.int (1 : Int32)), (.int (2 : Int32))])) _
    refine XS.icmpYes X0.here hx rfl (pc0 := 17) (pc' := 35) rfl (hb hby own_d3_17) rfl (feq (by decide : ¬ ((2 : Int32) = (1 : Int32)))).2 (by decide) (by decide) ?_
    show Steps p.tables e below (s₁.setTop (mkF m 35 #[.val (.int (2 : Int32)), .val (.int q0)] [])) _
    refine XS.iloadN X0.here hx rfl (hb hby own_d3_35) rfl ?_
    show Steps p.tables e below (s₁.setTop (mkF m 36 #[.val (.int (2 : Int32)), .val (.int q0)] [(.int (2 : Int32))])) _
    refine XS.iconst X0.here hx rfl (hb hby own_d3_36) ?_
    show Steps p.tables e below (s₁.setTop (mkF m 37 #[.val (.int (2 : Int32)), .val (.int q0)] [(.int (2 : Int32)), (.int (2 : Int32))])) _
    refine XS.icmpNo X0.here hx rfl (hb hby own_d3_37) rfl (teq (by decide : (2 : Int32) = (2 : Int32))).2 ?_
    show Steps p.tables e below (s₁.setTop (mkF m 40 #[.val (.int (2 : Int32)), .val (.int q0)] [])) _
    refine XS.iloadN X0.here hx rfl (hb hby own_d3_40) rfl ?_
    show Steps p.tables e below (s₁.setTop (mkF m 41 #[.val (.int (2 : Int32)), .val (.int q0)] [(.int q0)])) _
    refine XS.iconst X0.here hx rfl (hb hby own_d3_41) ?_
    show Steps p.tables e below (s₁.setTop (mkF m 42 #[.val (.int (2 : Int32)), .val (.int q0)] [(.int (1 : Int32)), (.int q0)])) _
    refine XS.icmpYes X0.here hx rfl (pc0 := 42) (pc' := 49) rfl (hb hby own_d3_42) rfl (feq (h1 : ¬ (q0 = (1 : Int32)))).2 (by decide) (by decide) ?_
    show Steps p.tables e below (s₁.setTop (mkF m 49 #[.val (.int (2 : Int32)), .val (.int q0)] [])) _
    refine XS.iconst X0.here hx rfl (hb hby own_d3_49) ?_
    show Steps p.tables e below (s₁.setTop (mkF m 50 #[.val (.int (2 : Int32)), .val (.int q0)] [(.int (0 : Int32))])) _
    exact retN X0 hx (t := .boolean) Bd.returns (by simp) (hb hby own_d3_50) hr
  · exact ⟨rfl, N0, e0⟩
set_option maxRecDepth 65536 in
set_option maxHeartbeats 40000000 in
theorem own_r0_k2m0c1 (l : Launch) (Z : State) (a0 : Array Value) (hw : ∀ d ∈ tables_1, d.before a0 Z = true) (ws : List Jvm.Cond) (r0 : Addr) (r1 : Addr) (r2 : Addr) (r3 : Addr) (r4 : Addr) (r5 : Addr) (r6 : Addr) (r7 : Addr) (r8 : Addr) (r0_c : Addr) (cl_r0_c : Cell) (r1_c : Addr) (cl_r1_c : Cell) (r2_c : Addr) (cl_r2_c : Cell) (r3_c : Addr) (cl_r3_c : Cell) (r4_c : Addr) (cl_r4_c : Cell) (r5_c : Addr) (cl_r5_c : Cell) (r6_c : Addr) (cl_r6_c : Cell) (r7_c : Addr) (cl_r7_c : Cell) (r8_c : Addr) (cl_r8_c : Cell) (h0 : Heap) (n0 : Nat) (Z0 : n0 ≤ h0.size) (F : own_W Z h0 r0 r1 r2 r3 r4 r5 r6 r7 r8 r0_c cl_r0_c r1_c cl_r1_c r2_c cl_r2_c r3_c cl_r3_c r4_c cl_r4_c r5_c cl_r5_c r6_c cl_r6_c r7_c cl_r7_c r8_c cl_r8_c) (i0 : Int32) (i1 : Int32) (i2 : Int32) (hk : ((i0 &&& (2147483647 : Int32)) % (9 : Int32)) = (2 : Int32)) (hm : (i1 &&& (1 : Int32)) = (0 : Int32)) (h1 : ¬ (i2 = (1 : Int32))) :
    MetFree l x (head1 (Jvm.Cond.code x code maxLocals ret :: ws) room_1) (fun a U => a = #[(.int i0), (.int i1), (.int i2)] ∧ Z.Warmed39 U.vm ∧ U.heap = h0) (fun _ _ _ _ _ => True) (fun _ U o U' => ∃ v L, o = .returned v ∧ own_Q (.int (1 : Int32)) h0 n0 v U'.heap L ∧ FrameEnd U o U' L room_1.cells room_1.slots) := by
  obtain ⟨S_r0, E_r0, S_r1, E_r1, S_r2, E_r2, S_r3, E_r3, S_r4, E_r4, S_r5, E_r5, S_r6, E_r6, S_r7, E_r7, S_r8, E_r8, F_r0_counts, Ar_r0_c, F_r1_counts, Ar_r1_c, F_r2_counts, Ar_r2_c, F_r3_counts, Ar_r3_c, F_r4_counts, Ar_r4_c, F_r5_counts, Ar_r5_c, F_r6_counts, Ar_r6_c, F_r7_counts, Ar_r7_c, F_r8_counts, Ar_r8_c, Sz_r0_c, El_r0_c_0, Sz_r1_c, El_r1_c_0, El_r1_c_1, Sz_r2_c, El_r2_c_0, Sz_r3_c, Sz_r4_c, Sz_r5_c, Sz_r6_c, Sz_r7_c, Sz_r8_c⟩ := id F
  refine MetFree.of_bodySF (plainFor_of_name own_pn_CommandTakesPinLaw) hisR ?_
  intro p e s m args below meth c s₁ Bd hml0 hP hK
  obtain ⟨rfl, hZ, hh⟩ := hP
  have hx := Bd.exec
  have hby := Bd.bytes
  have hml : c.maxLocals = 6 := hml0
  have hown : s.vm.findClass "com/example/urbana/urbana/protocol/CommandTakesPinLaw" = some m.cls := findClass_of_methodNamed Bd.named
  have X0 : Stand p l e room_1 s m #[(.int i0), (.int i1), (.int i2)] below meth c s₁ [] 0 0 := Stand.of_body Bd
  have e0 : s₁.heap = h0 := by rw [← hh, Bd.state]; rfl
  have N0 := Fr.nil n0
  have pre0 : ∀ t, Steps p.tables e below (s₁.setTop (mkF m 0 #[.val (.int i0), .val (.int i1), .val (.int i2), .unset, .unset, .unset] [])) t → Steps p.tables e below (s₁.setTop (entryFrame m #[(.int i0), (.int i1), (.int i2)] maxLocals)) t := fun t k => castTop (own_ef0_III m i0 i1 i2) k
  obtain ⟨_, _, ⟨T1, L1, k1, n1⟩, -, X1, ⟨Lc1, hQ1, l1, y1, z1⟩, st1⟩ := Jvm.LawKit.callS X0 hx (y := (⟨"com/example/urbana/urbana/protocol/CommandTakesPinLaw", "pick", "(I)Lcom/example/urbana/urbana/protocol/Command;"⟩ : MethodName)) hown (mvT hZ (hw _ (List.mem_of_getElem? (i := 1) rfl))) (mvT hZ (hw _ (List.mem_of_getElem? (i := 2) rfl))) (mvT hZ (hw _ (List.mem_of_getElem? (i := 3) rfl))) (mvT hZ (hw _ (List.mem_of_getElem? (i := 4) rfl))) (by decide) (backOf (W := 0) (own_r1_24 l Z a0 hw [] r0 r1 r2 r3 r4 r5 r6 r7 r8 r0_c cl_r0_c r1_c cl_r1_c r2_c cl_r2_c r3_c cl_r3_c r4_c cl_r4_c r5_c cl_r5_c r6_c cl_r6_c r7_c cl_r7_c r8_c cl_r8_c h0 n0 Z0 F ) hZ (hw _ (List.mem_of_getElem? (i := 4) rfl)) (hw _ (List.mem_of_getElem? (i := 3) rfl)) (by decide) (by decide)) (g := (mkF m 29 #[.val (.int i0), .val (.int i1), .val (.int i2), .val (.int (2 : Int32)), .val (.int i2), .unset] [(.int (2 : Int32))])) rfl (by rw [hml]; rfl) (argsL := [(.int (2 : Int32))]) (rest := []) (lenOf own_pd0 rfl) rfl (by show 2 * 0 + _ ≤ _; exact Nat.le_of_eq rfl) (hb hby at_29) (fun _ _ => ⟨rfl, e0, (by decide : 0 + 0 ≤ _), (by decide : 0 + 0 ≤ _)⟩)
  dsimp only [Pt.U, Pt.locs, Pt.cells, Pt.slots] at X1 l1 y1 z1 st1 hQ1
  subst l1 y1 z1
  obtain ⟨rfl, N1q, e1⟩ := hQ1
  have N1 := Fr.app N0 N1q
  obtain ⟨cq2, kq2, q2a, q2b, q2c⟩ := isOf hZ e1 E_r2
  obtain ⟨_, _, ⟨T2, L2, k2, n2⟩, -, X2, ⟨Lc2, hQ2, l2, y2, z2⟩, st2⟩ := X1.virtualBack hx (y := (⟨"com/example/urbana/urbana/protocol/Command", "takes", "(I)Z"⟩ : MethodName)) (z := (⟨"com/example/urbana/urbana/protocol/Command", "takes", "(I)Z"⟩ : MethodName)) hown (mvT hZ (hw _ (List.mem_of_getElem? (i := 8) rfl))) (mvT hZ (hw _ (List.mem_of_getElem? (i := 9) rfl))) (notFace_of_selects (args := #[]) (mvT hZ (hw _ (List.mem_of_getElem? (i := 11) rfl)))) (mvT hZ (hw _ (List.mem_of_getElem? (i := 11) rfl))) (mvT hZ (hw _ (List.mem_of_getElem? (i := 10) rfl))) (by decide) (backOf (W := 0) (own_r2_28 l Z a0 hw [] r0 r1 r2 r3 r4 r5 r6 r7 r8 r0_c cl_r0_c r1_c cl_r1_c r2_c cl_r2_c r3_c cl_r3_c r4_c cl_r4_c r5_c cl_r5_c r6_c cl_r6_c r7_c cl_r7_c r8_c cl_r8_c h0 n0 Z0 F i2 h1) hZ (hw _ (List.mem_of_getElem? (i := 12) rfl)) (hw _ (List.mem_of_getElem? (i := 6) rfl)) (by decide) (by decide)) q2a q2c (g := (mkF m 38 #[.val (.int i0), .val (.int i1), .val (.int i2), .val (.int (2 : Int32)), .val (.int i2), .val (.ref r2)] [(.int i2), (.ref r2)])) rfl (by rw [hml]; rfl) (Steps.refl _) (argsL := [(.int i2)]) (rest := []) (lenOf own_pd1 rfl) rfl (by show 2 * 0 + _ ≤ _; exact Nat.le_of_eq rfl) (hb hby at_38) (fun _ _ => ⟨rfl, e1, (by decide : 0 + 0 ≤ _), (by decide : 0 + 0 ≤ _)⟩)
  dsimp only [Pt.U, Pt.locs, Pt.cells, Pt.slots] at X2 l2 y2 z2 st2 hQ2
  subst l2 y2 z2
  obtain ⟨rfl, N2q, e2⟩ := hQ2
  have N2 := Fr.app N1 N2q
  obtain ⟨_, _, ⟨T3, L3, k3, n3⟩, -, X3, ⟨Lc3, hQ3, l3, y3, z3⟩, st3⟩ := Jvm.LawKit.callS X2 hx (y := (⟨"com/example/urbana/urbana/protocol/CommandTakesPinLaw", "expected", "(II)Z"⟩ : MethodName)) hown (mvT hZ (hw _ (List.mem_of_getElem? (i := 15) rfl))) (mvT hZ (hw _ (List.mem_of_getElem? (i := 16) rfl))) (mvT hZ (hw _ (List.mem_of_getElem? (i := 3) rfl))) (mvT hZ (hw _ (List.mem_of_getElem? (i := 17) rfl))) (by decide) (backOf (W := 1) (own_r3_29 l Z a0 hw [] r0 r1 r2 r3 r4 r5 r6 r7 r8 r0_c cl_r0_c r1_c cl_r1_c r2_c cl_r2_c r3_c cl_r3_c r4_c cl_r4_c r5_c cl_r5_c r6_c cl_r6_c r7_c cl_r7_c r8_c cl_r8_c h0 n0 Z0 F i2 h1) hZ (hw _ (List.mem_of_getElem? (i := 17) rfl)) (hw _ (List.mem_of_getElem? (i := 3) rfl)) (by decide) (by decide)) (g := (mkF m 44 #[.val (.int i0), .val (.int i1), .val (.int i2), .val (.int (2 : Int32)), .val (.int i2), .val (.ref r2)] [(.int i2), (.int (2 : Int32)), (.int (0 : Int32))])) rfl (by rw [hml]; rfl) (argsL := [(.int (2 : Int32)), (.int i2)]) (rest := [(.int (0 : Int32))]) (lenOf own_pd2 rfl) rfl (by show 2 * 0 + _ ≤ _; exact Nat.le_of_eq rfl) (hb hby at_44) (fun _ _ => ⟨rfl, e2, (by decide : 0 + 0 ≤ _), (by decide : 0 + 0 ≤ _)⟩)
  dsimp only [Pt.U, Pt.locs, Pt.cells, Pt.slots] at X3 l3 y3 z3 st3 hQ3
  subst l3 y3 z3
  obtain ⟨rfl, N3q, e3⟩ := hQ3
  have N3 := Fr.app N2 N3q
  obtain ⟨fs, hr, hrun, hended, hW, hsame⟩ := X3.leave (v := some (.int (1 : Int32))) (fun h => by rw [Bd.returns] at h; cases h)
  refine ⟨_, _, pre0 _ ?_, hrun, hended, _, _, rfl, ?_, ⟨_, rfl⟩, hW, hsame.mono (by decide) (by decide)⟩
  · show Steps p.tables e below (s₁.setTop (mkF m 0 #[.val (.int i0), .val (.int i1), .val (.int i2), .unset, .unset, .unset] [])) _
    refine XS.iloadN X0.here hx rfl (hb hby at_0) rfl ?_
    show Steps p.tables e below (s₁.setTop (mkF m 1 #[.val (.int i0), .val (.int i1), .val (.int i2), .unset, .unset, .unset] [(.int i0)])) _
    refine X0.ldcInt hx hown (mvT hZ (hw _ (List.mem_of_getElem? (i := 0) rfl))) (g := (mkF m 1 #[.val (.int i0), .val (.int i1), .val (.int i2), .unset, .unset, .unset] [(.int i0)])) rfl (hb hby at_1) _ ?_
    show Steps p.tables e below (s₁.setTop (mkF m 3 #[.val (.int i0), .val (.int i1), .val (.int i2), .unset, .unset, .unset] [(.int (2147483647 : Int32)), (.int i0)])) _
    refine XS.iand X0.here hx rfl (hb hby at_3) rfl ?_
    show Steps p.tables e below (s₁.setTop (mkF m 4 #[.val (.int i0), .val (.int i1), .val (.int i2), .unset, .unset, .unset] [(.int (i0 &&& (2147483647 : Int32)))])) _
    refine XS.bipush X0.here hx rfl (hb hby at_4) ?_
    show Steps p.tables e below (s₁.setTop (mkF m 6 #[.val (.int i0), .val (.int i1), .val (.int i2), .unset, .unset, .unset] [(.int (9 : Int32)), (.int (i0 &&& (2147483647 : Int32)))])) _
    refine iremM (g := (mkF m 6 #[.val (.int i0), .val (.int i1), .val (.int i2), .unset, .unset, .unset] [(.int (9 : Int32)), (.int (i0 &&& (2147483647 : Int32)))])) X0 hx rfl (hb hby at_6) rfl (by decide) ?_
    show Steps p.tables e below (s₁.setTop (mkF m 7 #[.val (.int i0), .val (.int i1), .val (.int i2), .unset, .unset, .unset] [(.int ((i0 &&& (2147483647 : Int32)) % (9 : Int32)))])) _
    rw [hk]
    show Steps p.tables e below (s₁.setTop (mkF m 7 #[.val (.int i0), .val (.int i1), .val (.int i2), .unset, .unset, .unset] [(.int (2 : Int32))])) _
    refine XS.istoreN X0.here hx rfl (hb hby at_7) rfl (l' := #[.val (.int i0), .val (.int i1), .val (.int i2), .val (.int (2 : Int32)), .unset, .unset]) rfl ?_
    show Steps p.tables e below (s₁.setTop (mkF m 8 #[.val (.int i0), .val (.int i1), .val (.int i2), .val (.int (2 : Int32)), .unset, .unset] [])) _
    refine XS.iloadN X0.here hx rfl (hb hby at_8) rfl ?_
    show Steps p.tables e below (s₁.setTop (mkF m 9 #[.val (.int i0), .val (.int i1), .val (.int i2), .val (.int (2 : Int32)), .unset, .unset] [(.int i1)])) _
    refine XS.iconst X0.here hx rfl (hb hby at_9) ?_
    show Steps p.tables e below (s₁.setTop (mkF m 10 #[.val (.int i0), .val (.int i1), .val (.int i2), .val (.int (2 : Int32)), .unset, .unset] [(.int (1 : Int32)), (.int i1)])) _
    refine XS.iand X0.here hx rfl (hb hby at_10) rfl ?_
    show Steps p.tables e below (s₁.setTop (mkF m 11 #[.val (.int i0), .val (.int i1), .val (.int i2), .val (.int (2 : Int32)), .unset, .unset] [(.int (i1 &&& (1 : Int32)))])) _
    rw [hm]
    show Steps p.tables e below (s₁.setTop (mkF m 11 #[.val (.int i0), .val (.int i1), .val (.int i2), .val (.int (2 : Int32)), .unset, .unset] [(.int (0 : Int32))])) _
    refine XS.ifYes X0.here hx rfl (pc0 := 11) (pc' := 25) rfl (hb hby at_11) rfl ((if0 _ _).trans (teq (by decide : (0 : Int32) = (0 : Int32))).1) (by decide) (by decide) ?_
    show Steps p.tables e below (s₁.setTop (mkF m 25 #[.val (.int i0), .val (.int i1), .val (.int i2), .val (.int (2 : Int32)), .unset, .unset] [])) _
    refine XS.iloadN X0.here hx rfl (hb hby at_25) rfl ?_
    show Steps p.tables e below (s₁.setTop (mkF m 26 #[.val (.int i0), .val (.int i1), .val (.int i2), .val (.int (2 : Int32)), .unset, .unset] [(.int i2)])) _
    refine XS.istore X0.here hx rfl (hb hby at_26) rfl (l' := #[.val (.int i0), .val (.int i1), .val (.int i2), .val (.int (2 : Int32)), .val (.int i2), .unset]) rfl ?_
    show Steps p.tables e below (s₁.setTop (mkF m 28 #[.val (.int i0), .val (.int i1), .val (.int i2), .val (.int (2 : Int32)), .val (.int i2), .unset] [])) _
    refine XS.iloadN X0.here hx rfl (hb hby at_28) rfl ?_
    show Steps p.tables e below (s₁.setTop (mkF m 29 #[.val (.int i0), .val (.int i1), .val (.int i2), .val (.int (2 : Int32)), .val (.int i2), .unset] [(.int (2 : Int32))])) _
    refine st1 _ ?_
    show Steps p.tables e below (T1.setTop (mkF m 32 #[.val (.int i0), .val (.int i1), .val (.int i2), .val (.int (2 : Int32)), .val (.int i2), .unset] [(.ref r2)])) _
    refine XS.astore X1.here hx rfl (hb hby at_32) rfl rfl (l' := #[.val (.int i0), .val (.int i1), .val (.int i2), .val (.int (2 : Int32)), .val (.int i2), .val (.ref r2)]) rfl ?_
    show Steps p.tables e below (T1.setTop (mkF m 34 #[.val (.int i0), .val (.int i1), .val (.int i2), .val (.int (2 : Int32)), .val (.int i2), .val (.ref r2)] [])) _
    refine XS.aload X1.here hx rfl (hb hby at_34) rfl rfl ?_
    show Steps p.tables e below (T1.setTop (mkF m 36 #[.val (.int i0), .val (.int i1), .val (.int i2), .val (.int (2 : Int32)), .val (.int i2), .val (.ref r2)] [(.ref r2)])) _
    refine XS.iload X1.here hx rfl (hb hby at_36) rfl ?_
    show Steps p.tables e below (T1.setTop (mkF m 38 #[.val (.int i0), .val (.int i1), .val (.int i2), .val (.int (2 : Int32)), .val (.int i2), .val (.ref r2)] [(.int i2), (.ref r2)])) _
    refine st2.trans ?_
    show Steps p.tables e below (T2.setTop (mkF m 41 #[.val (.int i0), .val (.int i1), .val (.int i2), .val (.int (2 : Int32)), .val (.int i2), .val (.ref r2)] [(.int (0 : Int32))])) _
    refine XS.iloadN X2.here hx rfl (hb hby at_41) rfl ?_
    show Steps p.tables e below (T2.setTop (mkF m 42 #[.val (.int i0), .val (.int i1), .val (.int i2), .val (.int (2 : Int32)), .val (.int i2), .val (.ref r2)] [(.int (2 : Int32)), (.int (0 : Int32))])) _
    refine XS.iload X2.here hx rfl (hb hby at_42) rfl ?_
    show Steps p.tables e below (T2.setTop (mkF m 44 #[.val (.int i0), .val (.int i1), .val (.int i2), .val (.int (2 : Int32)), .val (.int i2), .val (.ref r2)] [(.int i2), (.int (2 : Int32)), (.int (0 : Int32))])) _
    refine st3 _ ?_
    show Steps p.tables e below (T3.setTop (mkF m 47 #[.val (.int i0), .val (.int i1), .val (.int i2), .val (.int (2 : Int32)), .val (.int i2), .val (.ref r2)] [(.int (0 : Int32)), (.int (0 : Int32))])) _
    refine XS.icmpNo X3.here hx rfl (hb hby at_47) rfl (teq (by decide : (0 : Int32) = (0 : Int32))).2 ?_
    show Steps p.tables e below (T3.setTop (mkF m 50 #[.val (.int i0), .val (.int i1), .val (.int i2), .val (.int (2 : Int32)), .val (.int i2), .val (.ref r2)] [])) _
    refine XS.iconst X3.here hx rfl (hb hby at_50) ?_
    show Steps p.tables e below (T3.setTop (mkF m 51 #[.val (.int i0), .val (.int i1), .val (.int i2), .val (.int (2 : Int32)), .val (.int i2), .val (.ref r2)] [(.int (1 : Int32))])) _
    refine XS.goto X3.here hx rfl (pc0 := 51) (pc' := 55) rfl (hb hby at_51) (by decide) (by decide) ?_
    show Steps p.tables e below (T3.setTop (mkF m 55 #[.val (.int i0), .val (.int i1), .val (.int i2), .val (.int (2 : Int32)), .val (.int i2), .val (.ref r2)] [(.int (1 : Int32))])) _
    exact retN X3 hx (t := .boolean) Bd.returns (by simp) (hb hby at_55) hr
  · exact ⟨rfl, N3, e3⟩
set_option maxRecDepth 65536 in
set_option maxHeartbeats 40000000 in
theorem own_r0_k2m1c0 (l : Launch) (Z : State) (a0 : Array Value) (hw : ∀ d ∈ tables_1, d.before a0 Z = true) (ws : List Jvm.Cond) (r0 : Addr) (r1 : Addr) (r2 : Addr) (r3 : Addr) (r4 : Addr) (r5 : Addr) (r6 : Addr) (r7 : Addr) (r8 : Addr) (r0_c : Addr) (cl_r0_c : Cell) (r1_c : Addr) (cl_r1_c : Cell) (r2_c : Addr) (cl_r2_c : Cell) (r3_c : Addr) (cl_r3_c : Cell) (r4_c : Addr) (cl_r4_c : Cell) (r5_c : Addr) (cl_r5_c : Cell) (r6_c : Addr) (cl_r6_c : Cell) (r7_c : Addr) (cl_r7_c : Cell) (r8_c : Addr) (cl_r8_c : Cell) (h0 : Heap) (n0 : Nat) (Z0 : n0 ≤ h0.size) (F : own_W Z h0 r0 r1 r2 r3 r4 r5 r6 r7 r8 r0_c cl_r0_c r1_c cl_r1_c r2_c cl_r2_c r3_c cl_r3_c r4_c cl_r4_c r5_c cl_r5_c r6_c cl_r6_c r7_c cl_r7_c r8_c cl_r8_c) (i0 : Int32) (i1 : Int32) (i2 : Int32) (hk : ((i0 &&& (2147483647 : Int32)) % (9 : Int32)) = (2 : Int32)) (hm : (i1 &&& (1 : Int32)) = (1 : Int32)) (h1 : (((i1 >>> ((1 : Int32) &&& 31)) &&& (7 : Int32)) - (2 : Int32)) = (1 : Int32)) :
    MetFree l x (head1 (Jvm.Cond.code x code maxLocals ret :: ws) room_1) (fun a U => a = #[(.int i0), (.int i1), (.int i2)] ∧ Z.Warmed39 U.vm ∧ U.heap = h0) (fun _ _ _ _ _ => True) (fun _ U o U' => ∃ v L, o = .returned v ∧ own_Q (.int (1 : Int32)) h0 n0 v U'.heap L ∧ FrameEnd U o U' L room_1.cells room_1.slots) := by
  obtain ⟨S_r0, E_r0, S_r1, E_r1, S_r2, E_r2, S_r3, E_r3, S_r4, E_r4, S_r5, E_r5, S_r6, E_r6, S_r7, E_r7, S_r8, E_r8, F_r0_counts, Ar_r0_c, F_r1_counts, Ar_r1_c, F_r2_counts, Ar_r2_c, F_r3_counts, Ar_r3_c, F_r4_counts, Ar_r4_c, F_r5_counts, Ar_r5_c, F_r6_counts, Ar_r6_c, F_r7_counts, Ar_r7_c, F_r8_counts, Ar_r8_c, Sz_r0_c, El_r0_c_0, Sz_r1_c, El_r1_c_0, El_r1_c_1, Sz_r2_c, El_r2_c_0, Sz_r3_c, Sz_r4_c, Sz_r5_c, Sz_r6_c, Sz_r7_c, Sz_r8_c⟩ := id F
  refine MetFree.of_bodySF (plainFor_of_name own_pn_CommandTakesPinLaw) hisR ?_
  intro p e s m args below meth c s₁ Bd hml0 hP hK
  obtain ⟨rfl, hZ, hh⟩ := hP
  have hx := Bd.exec
  have hby := Bd.bytes
  have hml : c.maxLocals = 6 := hml0
  have hown : s.vm.findClass "com/example/urbana/urbana/protocol/CommandTakesPinLaw" = some m.cls := findClass_of_methodNamed Bd.named
  have X0 : Stand p l e room_1 s m #[(.int i0), (.int i1), (.int i2)] below meth c s₁ [] 0 0 := Stand.of_body Bd
  have e0 : s₁.heap = h0 := by rw [← hh, Bd.state]; rfl
  have N0 := Fr.nil n0
  have pre0 : ∀ t, Steps p.tables e below (s₁.setTop (mkF m 0 #[.val (.int i0), .val (.int i1), .val (.int i2), .unset, .unset, .unset] [])) t → Steps p.tables e below (s₁.setTop (entryFrame m #[(.int i0), (.int i1), (.int i2)] maxLocals)) t := fun t k => castTop (own_ef0_III m i0 i1 i2) k
  obtain ⟨_, _, ⟨T1, L1, k1, n1⟩, -, X1, ⟨Lc1, hQ1, l1, y1, z1⟩, st1⟩ := Jvm.LawKit.callS X0 hx (y := (⟨"com/example/urbana/urbana/protocol/CommandTakesPinLaw", "pick", "(I)Lcom/example/urbana/urbana/protocol/Command;"⟩ : MethodName)) hown (mvT hZ (hw _ (List.mem_of_getElem? (i := 1) rfl))) (mvT hZ (hw _ (List.mem_of_getElem? (i := 2) rfl))) (mvT hZ (hw _ (List.mem_of_getElem? (i := 3) rfl))) (mvT hZ (hw _ (List.mem_of_getElem? (i := 4) rfl))) (by decide) (backOf (W := 0) (own_r1_24 l Z a0 hw [] r0 r1 r2 r3 r4 r5 r6 r7 r8 r0_c cl_r0_c r1_c cl_r1_c r2_c cl_r2_c r3_c cl_r3_c r4_c cl_r4_c r5_c cl_r5_c r6_c cl_r6_c r7_c cl_r7_c r8_c cl_r8_c h0 n0 Z0 F ) hZ (hw _ (List.mem_of_getElem? (i := 4) rfl)) (hw _ (List.mem_of_getElem? (i := 3) rfl)) (by decide) (by decide)) (g := (mkF m 29 #[.val (.int i0), .val (.int i1), .val (.int i2), .val (.int (2 : Int32)), .val (.int (((i1 >>> ((1 : Int32) &&& 31)) &&& (7 : Int32)) - (2 : Int32))), .unset] [(.int (2 : Int32))])) rfl (by rw [hml]; rfl) (argsL := [(.int (2 : Int32))]) (rest := []) (lenOf own_pd0 rfl) rfl (by show 2 * 0 + _ ≤ _; exact Nat.le_of_eq rfl) (hb hby at_29) (fun _ _ => ⟨rfl, e0, (by decide : 0 + 0 ≤ _), (by decide : 0 + 0 ≤ _)⟩)
  dsimp only [Pt.U, Pt.locs, Pt.cells, Pt.slots] at X1 l1 y1 z1 st1 hQ1
  subst l1 y1 z1
  obtain ⟨rfl, N1q, e1⟩ := hQ1
  have N1 := Fr.app N0 N1q
  obtain ⟨cq2, kq2, q2a, q2b, q2c⟩ := isOf hZ e1 E_r2
  obtain ⟨_, _, ⟨T2, L2, k2, n2⟩, -, X2, ⟨Lc2, hQ2, l2, y2, z2⟩, st2⟩ := X1.virtualBack hx (y := (⟨"com/example/urbana/urbana/protocol/Command", "takes", "(I)Z"⟩ : MethodName)) (z := (⟨"com/example/urbana/urbana/protocol/Command", "takes", "(I)Z"⟩ : MethodName)) hown (mvT hZ (hw _ (List.mem_of_getElem? (i := 8) rfl))) (mvT hZ (hw _ (List.mem_of_getElem? (i := 9) rfl))) (notFace_of_selects (args := #[]) (mvT hZ (hw _ (List.mem_of_getElem? (i := 11) rfl)))) (mvT hZ (hw _ (List.mem_of_getElem? (i := 11) rfl))) (mvT hZ (hw _ (List.mem_of_getElem? (i := 10) rfl))) (by decide) (backOf (W := 0) (own_r2_25 l Z a0 hw [] r0 r1 r2 r3 r4 r5 r6 r7 r8 r0_c cl_r0_c r1_c cl_r1_c r2_c cl_r2_c r3_c cl_r3_c r4_c cl_r4_c r5_c cl_r5_c r6_c cl_r6_c r7_c cl_r7_c r8_c cl_r8_c h0 n0 Z0 F (((i1 >>> ((1 : Int32) &&& 31)) &&& (7 : Int32)) - (2 : Int32)) h1) hZ (hw _ (List.mem_of_getElem? (i := 12) rfl)) (hw _ (List.mem_of_getElem? (i := 6) rfl)) (by decide) (by decide)) q2a q2c (g := (mkF m 38 #[.val (.int i0), .val (.int i1), .val (.int i2), .val (.int (2 : Int32)), .val (.int (((i1 >>> ((1 : Int32) &&& 31)) &&& (7 : Int32)) - (2 : Int32))), .val (.ref r2)] [(.int (((i1 >>> ((1 : Int32) &&& 31)) &&& (7 : Int32)) - (2 : Int32))), (.ref r2)])) rfl (by rw [hml]; rfl) (Steps.refl _) (argsL := [(.int (((i1 >>> ((1 : Int32) &&& 31)) &&& (7 : Int32)) - (2 : Int32)))]) (rest := []) (lenOf own_pd1 rfl) rfl (by show 2 * 0 + _ ≤ _; exact Nat.le_of_eq rfl) (hb hby at_38) (fun _ _ => ⟨rfl, e1, (by decide : 0 + 0 ≤ _), (by decide : 0 + 0 ≤ _)⟩)
  dsimp only [Pt.U, Pt.locs, Pt.cells, Pt.slots] at X2 l2 y2 z2 st2 hQ2
  subst l2 y2 z2
  obtain ⟨rfl, N2q, e2⟩ := hQ2
  have N2 := Fr.app N1 N2q
  obtain ⟨_, _, ⟨T3, L3, k3, n3⟩, -, X3, ⟨Lc3, hQ3, l3, y3, z3⟩, st3⟩ := Jvm.LawKit.callS X2 hx (y := (⟨"com/example/urbana/urbana/protocol/CommandTakesPinLaw", "expected", "(II)Z"⟩ : MethodName)) hown (mvT hZ (hw _ (List.mem_of_getElem? (i := 15) rfl))) (mvT hZ (hw _ (List.mem_of_getElem? (i := 16) rfl))) (mvT hZ (hw _ (List.mem_of_getElem? (i := 3) rfl))) (mvT hZ (hw _ (List.mem_of_getElem? (i := 17) rfl))) (by decide) (backOf (W := 1) (own_r3_26 l Z a0 hw [] r0 r1 r2 r3 r4 r5 r6 r7 r8 r0_c cl_r0_c r1_c cl_r1_c r2_c cl_r2_c r3_c cl_r3_c r4_c cl_r4_c r5_c cl_r5_c r6_c cl_r6_c r7_c cl_r7_c r8_c cl_r8_c h0 n0 Z0 F (((i1 >>> ((1 : Int32) &&& 31)) &&& (7 : Int32)) - (2 : Int32)) h1) hZ (hw _ (List.mem_of_getElem? (i := 17) rfl)) (hw _ (List.mem_of_getElem? (i := 3) rfl)) (by decide) (by decide)) (g := (mkF m 44 #[.val (.int i0), .val (.int i1), .val (.int i2), .val (.int (2 : Int32)), .val (.int (((i1 >>> ((1 : Int32) &&& 31)) &&& (7 : Int32)) - (2 : Int32))), .val (.ref r2)] [(.int (((i1 >>> ((1 : Int32) &&& 31)) &&& (7 : Int32)) - (2 : Int32))), (.int (2 : Int32)), (.int (1 : Int32))])) rfl (by rw [hml]; rfl) (argsL := [(.int (2 : Int32)), (.int (((i1 >>> ((1 : Int32) &&& 31)) &&& (7 : Int32)) - (2 : Int32)))]) (rest := [(.int (1 : Int32))]) (lenOf own_pd2 rfl) rfl (by show 2 * 0 + _ ≤ _; exact Nat.le_of_eq rfl) (hb hby at_44) (fun _ _ => ⟨rfl, e2, (by decide : 0 + 0 ≤ _), (by decide : 0 + 0 ≤ _)⟩)
  dsimp only [Pt.U, Pt.locs, Pt.cells, Pt.slots] at X3 l3 y3 z3 st3 hQ3
  subst l3 y3 z3
  obtain ⟨rfl, N3q, e3⟩ := hQ3
  have N3 := Fr.app N2 N3q
  obtain ⟨fs, hr, hrun, hended, hW, hsame⟩ := X3.leave (v := some (.int (1 : Int32))) (fun h => by rw [Bd.returns] at h; cases h)
  refine ⟨_, _, pre0 _ ?_, hrun, hended, _, _, rfl, ?_, ⟨_, rfl⟩, hW, hsame.mono (by decide) (by decide)⟩
  · show Steps p.tables e below (s₁.setTop (mkF m 0 #[.val (.int i0), .val (.int i1), .val (.int i2), .unset, .unset, .unset] [])) _
    refine XS.iloadN X0.here hx rfl (hb hby at_0) rfl ?_
    show Steps p.tables e below (s₁.setTop (mkF m 1 #[.val (.int i0), .val (.int i1), .val (.int i2), .unset, .unset, .unset] [(.int i0)])) _
    refine X0.ldcInt hx hown (mvT hZ (hw _ (List.mem_of_getElem? (i := 0) rfl))) (g := (mkF m 1 #[.val (.int i0), .val (.int i1), .val (.int i2), .unset, .unset, .unset] [(.int i0)])) rfl (hb hby at_1) _ ?_
    show Steps p.tables e below (s₁.setTop (mkF m 3 #[.val (.int i0), .val (.int i1), .val (.int i2), .unset, .unset, .unset] [(.int (2147483647 : Int32)), (.int i0)])) _
    refine XS.iand X0.here hx rfl (hb hby at_3) rfl ?_
    show Steps p.tables e below (s₁.setTop (mkF m 4 #[.val (.int i0), .val (.int i1), .val (.int i2), .unset, .unset, .unset] [(.int (i0 &&& (2147483647 : Int32)))])) _
    refine XS.bipush X0.here hx rfl (hb hby at_4) ?_
    show Steps p.tables e below (s₁.setTop (mkF m 6 #[.val (.int i0), .val (.int i1), .val (.int i2), .unset, .unset, .unset] [(.int (9 : Int32)), (.int (i0 &&& (2147483647 : Int32)))])) _
    refine iremM (g := (mkF m 6 #[.val (.int i0), .val (.int i1), .val (.int i2), .unset, .unset, .unset] [(.int (9 : Int32)), (.int (i0 &&& (2147483647 : Int32)))])) X0 hx rfl (hb hby at_6) rfl (by decide) ?_
    show Steps p.tables e below (s₁.setTop (mkF m 7 #[.val (.int i0), .val (.int i1), .val (.int i2), .unset, .unset, .unset] [(.int ((i0 &&& (2147483647 : Int32)) % (9 : Int32)))])) _
    rw [hk]
    show Steps p.tables e below (s₁.setTop (mkF m 7 #[.val (.int i0), .val (.int i1), .val (.int i2), .unset, .unset, .unset] [(.int (2 : Int32))])) _
    refine XS.istoreN X0.here hx rfl (hb hby at_7) rfl (l' := #[.val (.int i0), .val (.int i1), .val (.int i2), .val (.int (2 : Int32)), .unset, .unset]) rfl ?_
    show Steps p.tables e below (s₁.setTop (mkF m 8 #[.val (.int i0), .val (.int i1), .val (.int i2), .val (.int (2 : Int32)), .unset, .unset] [])) _
    refine XS.iloadN X0.here hx rfl (hb hby at_8) rfl ?_
    show Steps p.tables e below (s₁.setTop (mkF m 9 #[.val (.int i0), .val (.int i1), .val (.int i2), .val (.int (2 : Int32)), .unset, .unset] [(.int i1)])) _
    refine XS.iconst X0.here hx rfl (hb hby at_9) ?_
    show Steps p.tables e below (s₁.setTop (mkF m 10 #[.val (.int i0), .val (.int i1), .val (.int i2), .val (.int (2 : Int32)), .unset, .unset] [(.int (1 : Int32)), (.int i1)])) _
    refine XS.iand X0.here hx rfl (hb hby at_10) rfl ?_
    show Steps p.tables e below (s₁.setTop (mkF m 11 #[.val (.int i0), .val (.int i1), .val (.int i2), .val (.int (2 : Int32)), .unset, .unset] [(.int (i1 &&& (1 : Int32)))])) _
    rw [hm]
    show Steps p.tables e below (s₁.setTop (mkF m 11 #[.val (.int i0), .val (.int i1), .val (.int i2), .val (.int (2 : Int32)), .unset, .unset] [(.int (1 : Int32))])) _
    refine XS.ifNo X0.here hx rfl (hb hby at_11) rfl ((if0 _ _).trans (feq (by decide : ¬ ((1 : Int32) = (0 : Int32)))).1) ?_
    show Steps p.tables e below (s₁.setTop (mkF m 14 #[.val (.int i0), .val (.int i1), .val (.int i2), .val (.int (2 : Int32)), .unset, .unset] [])) _
    refine XS.iloadN X0.here hx rfl (hb hby at_14) rfl ?_
    show Steps p.tables e below (s₁.setTop (mkF m 15 #[.val (.int i0), .val (.int i1), .val (.int i2), .val (.int (2 : Int32)), .unset, .unset] [(.int i1)])) _
    refine XS.iconst X0.here hx rfl (hb hby at_15) ?_
    show Steps p.tables e below (s₁.setTop (mkF m 16 #[.val (.int i0), .val (.int i1), .val (.int i2), .val (.int (2 : Int32)), .unset, .unset] [(.int (1 : Int32)), (.int i1)])) _
    refine XS.ishr X0.here hx rfl (hb hby at_16) rfl ?_
    show Steps p.tables e below (s₁.setTop (mkF m 17 #[.val (.int i0), .val (.int i1), .val (.int i2), .val (.int (2 : Int32)), .unset, .unset] [(.int (i1 >>> ((1 : Int32) &&& 31)))])) _
    refine XS.bipush X0.here hx rfl (hb hby at_17) ?_
    show Steps p.tables e below (s₁.setTop (mkF m 19 #[.val (.int i0), .val (.int i1), .val (.int i2), .val (.int (2 : Int32)), .unset, .unset] [(.int (7 : Int32)), (.int (i1 >>> ((1 : Int32) &&& 31)))])) _
    refine XS.iand X0.here hx rfl (hb hby at_19) rfl ?_
    show Steps p.tables e below (s₁.setTop (mkF m 20 #[.val (.int i0), .val (.int i1), .val (.int i2), .val (.int (2 : Int32)), .unset, .unset] [(.int ((i1 >>> ((1 : Int32) &&& 31)) &&& (7 : Int32)))])) _
    refine XS.iconst X0.here hx rfl (hb hby at_20) ?_
    show Steps p.tables e below (s₁.setTop (mkF m 21 #[.val (.int i0), .val (.int i1), .val (.int i2), .val (.int (2 : Int32)), .unset, .unset] [(.int (2 : Int32)), (.int ((i1 >>> ((1 : Int32) &&& 31)) &&& (7 : Int32)))])) _
    refine XS.isub X0.here hx rfl (hb hby at_21) rfl ?_
    show Steps p.tables e below (s₁.setTop (mkF m 22 #[.val (.int i0), .val (.int i1), .val (.int i2), .val (.int (2 : Int32)), .unset, .unset] [(.int (((i1 >>> ((1 : Int32) &&& 31)) &&& (7 : Int32)) - (2 : Int32)))])) _
    refine XS.goto X0.here hx rfl (pc0 := 22) (pc' := 26) rfl (hb hby at_22) (by decide) (by decide) ?_
    show Steps p.tables e below (s₁.setTop (mkF m 26 #[.val (.int i0), .val (.int i1), .val (.int i2), .val (.int (2 : Int32)), .unset, .unset] [(.int (((i1 >>> ((1 : Int32) &&& 31)) &&& (7 : Int32)) - (2 : Int32)))])) _
    refine XS.istore X0.here hx rfl (hb hby at_26) rfl (l' := #[.val (.int i0), .val (.int i1), .val (.int i2), .val (.int (2 : Int32)), .val (.int (((i1 >>> ((1 : Int32) &&& 31)) &&& (7 : Int32)) - (2 : Int32))), .unset]) rfl ?_
    show Steps p.tables e below (s₁.setTop (mkF m 28 #[.val (.int i0), .val (.int i1), .val (.int i2), .val (.int (2 : Int32)), .val (.int (((i1 >>> ((1 : Int32) &&& 31)) &&& (7 : Int32)) - (2 : Int32))), .unset] [])) _
    refine XS.iloadN X0.here hx rfl (hb hby at_28) rfl ?_
    show Steps p.tables e below (s₁.setTop (mkF m 29 #[.val (.int i0), .val (.int i1), .val (.int i2), .val (.int (2 : Int32)), .val (.int (((i1 >>> ((1 : Int32) &&& 31)) &&& (7 : Int32)) - (2 : Int32))), .unset] [(.int (2 : Int32))])) _
    refine st1 _ ?_
    show Steps p.tables e below (T1.setTop (mkF m 32 #[.val (.int i0), .val (.int i1), .val (.int i2), .val (.int (2 : Int32)), .val (.int (((i1 >>> ((1 : Int32) &&& 31)) &&& (7 : Int32)) - (2 : Int32))), .unset] [(.ref r2)])) _
    refine XS.astore X1.here hx rfl (hb hby at_32) rfl rfl (l' := #[.val (.int i0), .val (.int i1), .val (.int i2), .val (.int (2 : Int32)), .val (.int (((i1 >>> ((1 : Int32) &&& 31)) &&& (7 : Int32)) - (2 : Int32))), .val (.ref r2)]) rfl ?_
    show Steps p.tables e below (T1.setTop (mkF m 34 #[.val (.int i0), .val (.int i1), .val (.int i2), .val (.int (2 : Int32)), .val (.int (((i1 >>> ((1 : Int32) &&& 31)) &&& (7 : Int32)) - (2 : Int32))), .val (.ref r2)] [])) _
    refine XS.aload X1.here hx rfl (hb hby at_34) rfl rfl ?_
    show Steps p.tables e below (T1.setTop (mkF m 36 #[.val (.int i0), .val (.int i1), .val (.int i2), .val (.int (2 : Int32)), .val (.int (((i1 >>> ((1 : Int32) &&& 31)) &&& (7 : Int32)) - (2 : Int32))), .val (.ref r2)] [(.ref r2)])) _
    refine XS.iload X1.here hx rfl (hb hby at_36) rfl ?_
    show Steps p.tables e below (T1.setTop (mkF m 38 #[.val (.int i0), .val (.int i1), .val (.int i2), .val (.int (2 : Int32)), .val (.int (((i1 >>> ((1 : Int32) &&& 31)) &&& (7 : Int32)) - (2 : Int32))), .val (.ref r2)] [(.int (((i1 >>> ((1 : Int32) &&& 31)) &&& (7 : Int32)) - (2 : Int32))), (.ref r2)])) _
    refine st2.trans ?_
    show Steps p.tables e below (T2.setTop (mkF m 41 #[.val (.int i0), .val (.int i1), .val (.int i2), .val (.int (2 : Int32)), .val (.int (((i1 >>> ((1 : Int32) &&& 31)) &&& (7 : Int32)) - (2 : Int32))), .val (.ref r2)] [(.int (1 : Int32))])) _
    refine XS.iloadN X2.here hx rfl (hb hby at_41) rfl ?_
    show Steps p.tables e below (T2.setTop (mkF m 42 #[.val (.int i0), .val (.int i1), .val (.int i2), .val (.int (2 : Int32)), .val (.int (((i1 >>> ((1 : Int32) &&& 31)) &&& (7 : Int32)) - (2 : Int32))), .val (.ref r2)] [(.int (2 : Int32)), (.int (1 : Int32))])) _
    refine XS.iload X2.here hx rfl (hb hby at_42) rfl ?_
    show Steps p.tables e below (T2.setTop (mkF m 44 #[.val (.int i0), .val (.int i1), .val (.int i2), .val (.int (2 : Int32)), .val (.int (((i1 >>> ((1 : Int32) &&& 31)) &&& (7 : Int32)) - (2 : Int32))), .val (.ref r2)] [(.int (((i1 >>> ((1 : Int32) &&& 31)) &&& (7 : Int32)) - (2 : Int32))), (.int (2 : Int32)), (.int (1 : Int32))])) _
    refine st3 _ ?_
    show Steps p.tables e below (T3.setTop (mkF m 47 #[.val (.int i0), .val (.int i1), .val (.int i2), .val (.int (2 : Int32)), .val (.int (((i1 >>> ((1 : Int32) &&& 31)) &&& (7 : Int32)) - (2 : Int32))), .val (.ref r2)] [(.int (1 : Int32)), (.int (1 : Int32))])) _
    refine XS.icmpNo X3.here hx rfl (hb hby at_47) rfl (teq (by decide : (1 : Int32) = (1 : Int32))).2 ?_
    show Steps p.tables e below (T3.setTop (mkF m 50 #[.val (.int i0), .val (.int i1), .val (.int i2), .val (.int (2 : Int32)), .val (.int (((i1 >>> ((1 : Int32) &&& 31)) &&& (7 : Int32)) - (2 : Int32))), .val (.ref r2)] [])) _
    refine XS.iconst X3.here hx rfl (hb hby at_50) ?_
    show Steps p.tables e below (T3.setTop (mkF m 51 #[.val (.int i0), .val (.int i1), .val (.int i2), .val (.int (2 : Int32)), .val (.int (((i1 >>> ((1 : Int32) &&& 31)) &&& (7 : Int32)) - (2 : Int32))), .val (.ref r2)] [(.int (1 : Int32))])) _
    refine XS.goto X3.here hx rfl (pc0 := 51) (pc' := 55) rfl (hb hby at_51) (by decide) (by decide) ?_
    show Steps p.tables e below (T3.setTop (mkF m 55 #[.val (.int i0), .val (.int i1), .val (.int i2), .val (.int (2 : Int32)), .val (.int (((i1 >>> ((1 : Int32) &&& 31)) &&& (7 : Int32)) - (2 : Int32))), .val (.ref r2)] [(.int (1 : Int32))])) _
    exact retN X3 hx (t := .boolean) Bd.returns (by simp) (hb hby at_55) hr
  · exact ⟨rfl, N3, e3⟩
set_option maxRecDepth 65536 in
set_option maxHeartbeats 40000000 in
theorem own_r0_k2m1c1 (l : Launch) (Z : State) (a0 : Array Value) (hw : ∀ d ∈ tables_1, d.before a0 Z = true) (ws : List Jvm.Cond) (r0 : Addr) (r1 : Addr) (r2 : Addr) (r3 : Addr) (r4 : Addr) (r5 : Addr) (r6 : Addr) (r7 : Addr) (r8 : Addr) (r0_c : Addr) (cl_r0_c : Cell) (r1_c : Addr) (cl_r1_c : Cell) (r2_c : Addr) (cl_r2_c : Cell) (r3_c : Addr) (cl_r3_c : Cell) (r4_c : Addr) (cl_r4_c : Cell) (r5_c : Addr) (cl_r5_c : Cell) (r6_c : Addr) (cl_r6_c : Cell) (r7_c : Addr) (cl_r7_c : Cell) (r8_c : Addr) (cl_r8_c : Cell) (h0 : Heap) (n0 : Nat) (Z0 : n0 ≤ h0.size) (F : own_W Z h0 r0 r1 r2 r3 r4 r5 r6 r7 r8 r0_c cl_r0_c r1_c cl_r1_c r2_c cl_r2_c r3_c cl_r3_c r4_c cl_r4_c r5_c cl_r5_c r6_c cl_r6_c r7_c cl_r7_c r8_c cl_r8_c) (i0 : Int32) (i1 : Int32) (i2 : Int32) (hk : ((i0 &&& (2147483647 : Int32)) % (9 : Int32)) = (2 : Int32)) (hm : (i1 &&& (1 : Int32)) = (1 : Int32)) (h1 : ¬ ((((i1 >>> ((1 : Int32) &&& 31)) &&& (7 : Int32)) - (2 : Int32)) = (1 : Int32))) :
    MetFree l x (head1 (Jvm.Cond.code x code maxLocals ret :: ws) room_1) (fun a U => a = #[(.int i0), (.int i1), (.int i2)] ∧ Z.Warmed39 U.vm ∧ U.heap = h0) (fun _ _ _ _ _ => True) (fun _ U o U' => ∃ v L, o = .returned v ∧ own_Q (.int (1 : Int32)) h0 n0 v U'.heap L ∧ FrameEnd U o U' L room_1.cells room_1.slots) := by
  obtain ⟨S_r0, E_r0, S_r1, E_r1, S_r2, E_r2, S_r3, E_r3, S_r4, E_r4, S_r5, E_r5, S_r6, E_r6, S_r7, E_r7, S_r8, E_r8, F_r0_counts, Ar_r0_c, F_r1_counts, Ar_r1_c, F_r2_counts, Ar_r2_c, F_r3_counts, Ar_r3_c, F_r4_counts, Ar_r4_c, F_r5_counts, Ar_r5_c, F_r6_counts, Ar_r6_c, F_r7_counts, Ar_r7_c, F_r8_counts, Ar_r8_c, Sz_r0_c, El_r0_c_0, Sz_r1_c, El_r1_c_0, El_r1_c_1, Sz_r2_c, El_r2_c_0, Sz_r3_c, Sz_r4_c, Sz_r5_c, Sz_r6_c, Sz_r7_c, Sz_r8_c⟩ := id F
  refine MetFree.of_bodySF (plainFor_of_name own_pn_CommandTakesPinLaw) hisR ?_
  intro p e s m args below meth c s₁ Bd hml0 hP hK
  obtain ⟨rfl, hZ, hh⟩ := hP
  have hx := Bd.exec
  have hby := Bd.bytes
  have hml : c.maxLocals = 6 := hml0
  have hown : s.vm.findClass "com/example/urbana/urbana/protocol/CommandTakesPinLaw" = some m.cls := findClass_of_methodNamed Bd.named
  have X0 : Stand p l e room_1 s m #[(.int i0), (.int i1), (.int i2)] below meth c s₁ [] 0 0 := Stand.of_body Bd
  have e0 : s₁.heap = h0 := by rw [← hh, Bd.state]; rfl
  have N0 := Fr.nil n0
  have pre0 : ∀ t, Steps p.tables e below (s₁.setTop (mkF m 0 #[.val (.int i0), .val (.int i1), .val (.int i2), .unset, .unset, .unset] [])) t → Steps p.tables e below (s₁.setTop (entryFrame m #[(.int i0), (.int i1), (.int i2)] maxLocals)) t := fun t k => castTop (own_ef0_III m i0 i1 i2) k
  obtain ⟨_, _, ⟨T1, L1, k1, n1⟩, -, X1, ⟨Lc1, hQ1, l1, y1, z1⟩, st1⟩ := Jvm.LawKit.callS X0 hx (y := (⟨"com/example/urbana/urbana/protocol/CommandTakesPinLaw", "pick", "(I)Lcom/example/urbana/urbana/protocol/Command;"⟩ : MethodName)) hown (mvT hZ (hw _ (List.mem_of_getElem? (i := 1) rfl))) (mvT hZ (hw _ (List.mem_of_getElem? (i := 2) rfl))) (mvT hZ (hw _ (List.mem_of_getElem? (i := 3) rfl))) (mvT hZ (hw _ (List.mem_of_getElem? (i := 4) rfl))) (by decide) (backOf (W := 0) (own_r1_24 l Z a0 hw [] r0 r1 r2 r3 r4 r5 r6 r7 r8 r0_c cl_r0_c r1_c cl_r1_c r2_c cl_r2_c r3_c cl_r3_c r4_c cl_r4_c r5_c cl_r5_c r6_c cl_r6_c r7_c cl_r7_c r8_c cl_r8_c h0 n0 Z0 F ) hZ (hw _ (List.mem_of_getElem? (i := 4) rfl)) (hw _ (List.mem_of_getElem? (i := 3) rfl)) (by decide) (by decide)) (g := (mkF m 29 #[.val (.int i0), .val (.int i1), .val (.int i2), .val (.int (2 : Int32)), .val (.int (((i1 >>> ((1 : Int32) &&& 31)) &&& (7 : Int32)) - (2 : Int32))), .unset] [(.int (2 : Int32))])) rfl (by rw [hml]; rfl) (argsL := [(.int (2 : Int32))]) (rest := []) (lenOf own_pd0 rfl) rfl (by show 2 * 0 + _ ≤ _; exact Nat.le_of_eq rfl) (hb hby at_29) (fun _ _ => ⟨rfl, e0, (by decide : 0 + 0 ≤ _), (by decide : 0 + 0 ≤ _)⟩)
  dsimp only [Pt.U, Pt.locs, Pt.cells, Pt.slots] at X1 l1 y1 z1 st1 hQ1
  subst l1 y1 z1
  obtain ⟨rfl, N1q, e1⟩ := hQ1
  have N1 := Fr.app N0 N1q
  obtain ⟨cq2, kq2, q2a, q2b, q2c⟩ := isOf hZ e1 E_r2
  obtain ⟨_, _, ⟨T2, L2, k2, n2⟩, -, X2, ⟨Lc2, hQ2, l2, y2, z2⟩, st2⟩ := X1.virtualBack hx (y := (⟨"com/example/urbana/urbana/protocol/Command", "takes", "(I)Z"⟩ : MethodName)) (z := (⟨"com/example/urbana/urbana/protocol/Command", "takes", "(I)Z"⟩ : MethodName)) hown (mvT hZ (hw _ (List.mem_of_getElem? (i := 8) rfl))) (mvT hZ (hw _ (List.mem_of_getElem? (i := 9) rfl))) (notFace_of_selects (args := #[]) (mvT hZ (hw _ (List.mem_of_getElem? (i := 11) rfl)))) (mvT hZ (hw _ (List.mem_of_getElem? (i := 11) rfl))) (mvT hZ (hw _ (List.mem_of_getElem? (i := 10) rfl))) (by decide) (backOf (W := 0) (own_r2_28 l Z a0 hw [] r0 r1 r2 r3 r4 r5 r6 r7 r8 r0_c cl_r0_c r1_c cl_r1_c r2_c cl_r2_c r3_c cl_r3_c r4_c cl_r4_c r5_c cl_r5_c r6_c cl_r6_c r7_c cl_r7_c r8_c cl_r8_c h0 n0 Z0 F (((i1 >>> ((1 : Int32) &&& 31)) &&& (7 : Int32)) - (2 : Int32)) h1) hZ (hw _ (List.mem_of_getElem? (i := 12) rfl)) (hw _ (List.mem_of_getElem? (i := 6) rfl)) (by decide) (by decide)) q2a q2c (g := (mkF m 38 #[.val (.int i0), .val (.int i1), .val (.int i2), .val (.int (2 : Int32)), .val (.int (((i1 >>> ((1 : Int32) &&& 31)) &&& (7 : Int32)) - (2 : Int32))), .val (.ref r2)] [(.int (((i1 >>> ((1 : Int32) &&& 31)) &&& (7 : Int32)) - (2 : Int32))), (.ref r2)])) rfl (by rw [hml]; rfl) (Steps.refl _) (argsL := [(.int (((i1 >>> ((1 : Int32) &&& 31)) &&& (7 : Int32)) - (2 : Int32)))]) (rest := []) (lenOf own_pd1 rfl) rfl (by show 2 * 0 + _ ≤ _; exact Nat.le_of_eq rfl) (hb hby at_38) (fun _ _ => ⟨rfl, e1, (by decide : 0 + 0 ≤ _), (by decide : 0 + 0 ≤ _)⟩)
  dsimp only [Pt.U, Pt.locs, Pt.cells, Pt.slots] at X2 l2 y2 z2 st2 hQ2
  subst l2 y2 z2
  obtain ⟨rfl, N2q, e2⟩ := hQ2
  have N2 := Fr.app N1 N2q
  obtain ⟨_, _, ⟨T3, L3, k3, n3⟩, -, X3, ⟨Lc3, hQ3, l3, y3, z3⟩, st3⟩ := Jvm.LawKit.callS X2 hx (y := (⟨"com/example/urbana/urbana/protocol/CommandTakesPinLaw", "expected", "(II)Z"⟩ : MethodName)) hown (mvT hZ (hw _ (List.mem_of_getElem? (i := 15) rfl))) (mvT hZ (hw _ (List.mem_of_getElem? (i := 16) rfl))) (mvT hZ (hw _ (List.mem_of_getElem? (i := 3) rfl))) (mvT hZ (hw _ (List.mem_of_getElem? (i := 17) rfl))) (by decide) (backOf (W := 1) (own_r3_29 l Z a0 hw [] r0 r1 r2 r3 r4 r5 r6 r7 r8 r0_c cl_r0_c r1_c cl_r1_c r2_c cl_r2_c r3_c cl_r3_c r4_c cl_r4_c r5_c cl_r5_c r6_c cl_r6_c r7_c cl_r7_c r8_c cl_r8_c h0 n0 Z0 F (((i1 >>> ((1 : Int32) &&& 31)) &&& (7 : Int32)) - (2 : Int32)) h1) hZ (hw _ (List.mem_of_getElem? (i := 17) rfl)) (hw _ (List.mem_of_getElem? (i := 3) rfl)) (by decide) (by decide)) (g := (mkF m 44 #[.val (.int i0), .val (.int i1), .val (.int i2), .val (.int (2 : Int32)), .val (.int (((i1 >>> ((1 : Int32) &&& 31)) &&& (7 : Int32)) - (2 : Int32))), .val (.ref r2)] [(.int (((i1 >>> ((1 : Int32) &&& 31)) &&& (7 : Int32)) - (2 : Int32))), (.int (2 : Int32)), (.int (0 : Int32))])) rfl (by rw [hml]; rfl) (argsL := [(.int (2 : Int32)), (.int (((i1 >>> ((1 : Int32) &&& 31)) &&& (7 : Int32)) - (2 : Int32)))]) (rest := [(.int (0 : Int32))]) (lenOf own_pd2 rfl) rfl (by show 2 * 0 + _ ≤ _; exact Nat.le_of_eq rfl) (hb hby at_44) (fun _ _ => ⟨rfl, e2, (by decide : 0 + 0 ≤ _), (by decide : 0 + 0 ≤ _)⟩)
  dsimp only [Pt.U, Pt.locs, Pt.cells, Pt.slots] at X3 l3 y3 z3 st3 hQ3
  subst l3 y3 z3
  obtain ⟨rfl, N3q, e3⟩ := hQ3
  have N3 := Fr.app N2 N3q
  obtain ⟨fs, hr, hrun, hended, hW, hsame⟩ := X3.leave (v := some (.int (1 : Int32))) (fun h => by rw [Bd.returns] at h; cases h)
  refine ⟨_, _, pre0 _ ?_, hrun, hended, _, _, rfl, ?_, ⟨_, rfl⟩, hW, hsame.mono (by decide) (by decide)⟩
  · show Steps p.tables e below (s₁.setTop (mkF m 0 #[.val (.int i0), .val (.int i1), .val (.int i2), .unset, .unset, .unset] [])) _
    refine XS.iloadN X0.here hx rfl (hb hby at_0) rfl ?_
    show Steps p.tables e below (s₁.setTop (mkF m 1 #[.val (.int i0), .val (.int i1), .val (.int i2), .unset, .unset, .unset] [(.int i0)])) _
    refine X0.ldcInt hx hown (mvT hZ (hw _ (List.mem_of_getElem? (i := 0) rfl))) (g := (mkF m 1 #[.val (.int i0), .val (.int i1), .val (.int i2), .unset, .unset, .unset] [(.int i0)])) rfl (hb hby at_1) _ ?_
    show Steps p.tables e below (s₁.setTop (mkF m 3 #[.val (.int i0), .val (.int i1), .val (.int i2), .unset, .unset, .unset] [(.int (2147483647 : Int32)), (.int i0)])) _
    refine XS.iand X0.here hx rfl (hb hby at_3) rfl ?_
    show Steps p.tables e below (s₁.setTop (mkF m 4 #[.val (.int i0), .val (.int i1), .val (.int i2), .unset, .unset, .unset] [(.int (i0 &&& (2147483647 : Int32)))])) _
    refine XS.bipush X0.here hx rfl (hb hby at_4) ?_
    show Steps p.tables e below (s₁.setTop (mkF m 6 #[.val (.int i0), .val (.int i1), .val (.int i2), .unset, .unset, .unset] [(.int (9 : Int32)), (.int (i0 &&& (2147483647 : Int32)))])) _
    refine iremM (g := (mkF m 6 #[.val (.int i0), .val (.int i1), .val (.int i2), .unset, .unset, .unset] [(.int (9 : Int32)), (.int (i0 &&& (2147483647 : Int32)))])) X0 hx rfl (hb hby at_6) rfl (by decide) ?_
    show Steps p.tables e below (s₁.setTop (mkF m 7 #[.val (.int i0), .val (.int i1), .val (.int i2), .unset, .unset, .unset] [(.int ((i0 &&& (2147483647 : Int32)) % (9 : Int32)))])) _
    rw [hk]
    show Steps p.tables e below (s₁.setTop (mkF m 7 #[.val (.int i0), .val (.int i1), .val (.int i2), .unset, .unset, .unset] [(.int (2 : Int32))])) _
    refine XS.istoreN X0.here hx rfl (hb hby at_7) rfl (l' := #[.val (.int i0), .val (.int i1), .val (.int i2), .val (.int (2 : Int32)), .unset, .unset]) rfl ?_
    show Steps p.tables e below (s₁.setTop (mkF m 8 #[.val (.int i0), .val (.int i1), .val (.int i2), .val (.int (2 : Int32)), .unset, .unset] [])) _
    refine XS.iloadN X0.here hx rfl (hb hby at_8) rfl ?_
    show Steps p.tables e below (s₁.setTop (mkF m 9 #[.val (.int i0), .val (.int i1), .val (.int i2), .val (.int (2 : Int32)), .unset, .unset] [(.int i1)])) _
    refine XS.iconst X0.here hx rfl (hb hby at_9) ?_
    show Steps p.tables e below (s₁.setTop (mkF m 10 #[.val (.int i0), .val (.int i1), .val (.int i2), .val (.int (2 : Int32)), .unset, .unset] [(.int (1 : Int32)), (.int i1)])) _
    refine XS.iand X0.here hx rfl (hb hby at_10) rfl ?_
    show Steps p.tables e below (s₁.setTop (mkF m 11 #[.val (.int i0), .val (.int i1), .val (.int i2), .val (.int (2 : Int32)), .unset, .unset] [(.int (i1 &&& (1 : Int32)))])) _
    rw [hm]
    show Steps p.tables e below (s₁.setTop (mkF m 11 #[.val (.int i0), .val (.int i1), .val (.int i2), .val (.int (2 : Int32)), .unset, .unset] [(.int (1 : Int32))])) _
    refine XS.ifNo X0.here hx rfl (hb hby at_11) rfl ((if0 _ _).trans (feq (by decide : ¬ ((1 : Int32) = (0 : Int32)))).1) ?_
    show Steps p.tables e below (s₁.setTop (mkF m 14 #[.val (.int i0), .val (.int i1), .val (.int i2), .val (.int (2 : Int32)), .unset, .unset] [])) _
    refine XS.iloadN X0.here hx rfl (hb hby at_14) rfl ?_
    show Steps p.tables e below (s₁.setTop (mkF m 15 #[.val (.int i0), .val (.int i1), .val (.int i2), .val (.int (2 : Int32)), .unset, .unset] [(.int i1)])) _
    refine XS.iconst X0.here hx rfl (hb hby at_15) ?_
    show Steps p.tables e below (s₁.setTop (mkF m 16 #[.val (.int i0), .val (.int i1), .val (.int i2), .val (.int (2 : Int32)), .unset, .unset] [(.int (1 : Int32)), (.int i1)])) _
    refine XS.ishr X0.here hx rfl (hb hby at_16) rfl ?_
    show Steps p.tables e below (s₁.setTop (mkF m 17 #[.val (.int i0), .val (.int i1), .val (.int i2), .val (.int (2 : Int32)), .unset, .unset] [(.int (i1 >>> ((1 : Int32) &&& 31)))])) _
    refine XS.bipush X0.here hx rfl (hb hby at_17) ?_
    show Steps p.tables e below (s₁.setTop (mkF m 19 #[.val (.int i0), .val (.int i1), .val (.int i2), .val (.int (2 : Int32)), .unset, .unset] [(.int (7 : Int32)), (.int (i1 >>> ((1 : Int32) &&& 31)))])) _
    refine XS.iand X0.here hx rfl (hb hby at_19) rfl ?_
    show Steps p.tables e below (s₁.setTop (mkF m 20 #[.val (.int i0), .val (.int i1), .val (.int i2), .val (.int (2 : Int32)), .unset, .unset] [(.int ((i1 >>> ((1 : Int32) &&& 31)) &&& (7 : Int32)))])) _
    refine XS.iconst X0.here hx rfl (hb hby at_20) ?_
    show Steps p.tables e below (s₁.setTop (mkF m 21 #[.val (.int i0), .val (.int i1), .val (.int i2), .val (.int (2 : Int32)), .unset, .unset] [(.int (2 : Int32)), (.int ((i1 >>> ((1 : Int32) &&& 31)) &&& (7 : Int32)))])) _
    refine XS.isub X0.here hx rfl (hb hby at_21) rfl ?_
    show Steps p.tables e below (s₁.setTop (mkF m 22 #[.val (.int i0), .val (.int i1), .val (.int i2), .val (.int (2 : Int32)), .unset, .unset] [(.int (((i1 >>> ((1 : Int32) &&& 31)) &&& (7 : Int32)) - (2 : Int32)))])) _
    refine XS.goto X0.here hx rfl (pc0 := 22) (pc' := 26) rfl (hb hby at_22) (by decide) (by decide) ?_
    show Steps p.tables e below (s₁.setTop (mkF m 26 #[.val (.int i0), .val (.int i1), .val (.int i2), .val (.int (2 : Int32)), .unset, .unset] [(.int (((i1 >>> ((1 : Int32) &&& 31)) &&& (7 : Int32)) - (2 : Int32)))])) _
    refine XS.istore X0.here hx rfl (hb hby at_26) rfl (l' := #[.val (.int i0), .val (.int i1), .val (.int i2), .val (.int (2 : Int32)), .val (.int (((i1 >>> ((1 : Int32) &&& 31)) &&& (7 : Int32)) - (2 : Int32))), .unset]) rfl ?_
    show Steps p.tables e below (s₁.setTop (mkF m 28 #[.val (.int i0), .val (.int i1), .val (.int i2), .val (.int (2 : Int32)), .val (.int (((i1 >>> ((1 : Int32) &&& 31)) &&& (7 : Int32)) - (2 : Int32))), .unset] [])) _
    refine XS.iloadN X0.here hx rfl (hb hby at_28) rfl ?_
    show Steps p.tables e below (s₁.setTop (mkF m 29 #[.val (.int i0), .val (.int i1), .val (.int i2), .val (.int (2 : Int32)), .val (.int (((i1 >>> ((1 : Int32) &&& 31)) &&& (7 : Int32)) - (2 : Int32))), .unset] [(.int (2 : Int32))])) _
    refine st1 _ ?_
    show Steps p.tables e below (T1.setTop (mkF m 32 #[.val (.int i0), .val (.int i1), .val (.int i2), .val (.int (2 : Int32)), .val (.int (((i1 >>> ((1 : Int32) &&& 31)) &&& (7 : Int32)) - (2 : Int32))), .unset] [(.ref r2)])) _
    refine XS.astore X1.here hx rfl (hb hby at_32) rfl rfl (l' := #[.val (.int i0), .val (.int i1), .val (.int i2), .val (.int (2 : Int32)), .val (.int (((i1 >>> ((1 : Int32) &&& 31)) &&& (7 : Int32)) - (2 : Int32))), .val (.ref r2)]) rfl ?_
    show Steps p.tables e below (T1.setTop (mkF m 34 #[.val (.int i0), .val (.int i1), .val (.int i2), .val (.int (2 : Int32)), .val (.int (((i1 >>> ((1 : Int32) &&& 31)) &&& (7 : Int32)) - (2 : Int32))), .val (.ref r2)] [])) _
    refine XS.aload X1.here hx rfl (hb hby at_34) rfl rfl ?_
    show Steps p.tables e below (T1.setTop (mkF m 36 #[.val (.int i0), .val (.int i1), .val (.int i2), .val (.int (2 : Int32)), .val (.int (((i1 >>> ((1 : Int32) &&& 31)) &&& (7 : Int32)) - (2 : Int32))), .val (.ref r2)] [(.ref r2)])) _
    refine XS.iload X1.here hx rfl (hb hby at_36) rfl ?_
    show Steps p.tables e below (T1.setTop (mkF m 38 #[.val (.int i0), .val (.int i1), .val (.int i2), .val (.int (2 : Int32)), .val (.int (((i1 >>> ((1 : Int32) &&& 31)) &&& (7 : Int32)) - (2 : Int32))), .val (.ref r2)] [(.int (((i1 >>> ((1 : Int32) &&& 31)) &&& (7 : Int32)) - (2 : Int32))), (.ref r2)])) _
    refine st2.trans ?_
    show Steps p.tables e below (T2.setTop (mkF m 41 #[.val (.int i0), .val (.int i1), .val (.int i2), .val (.int (2 : Int32)), .val (.int (((i1 >>> ((1 : Int32) &&& 31)) &&& (7 : Int32)) - (2 : Int32))), .val (.ref r2)] [(.int (0 : Int32))])) _
    refine XS.iloadN X2.here hx rfl (hb hby at_41) rfl ?_
    show Steps p.tables e below (T2.setTop (mkF m 42 #[.val (.int i0), .val (.int i1), .val (.int i2), .val (.int (2 : Int32)), .val (.int (((i1 >>> ((1 : Int32) &&& 31)) &&& (7 : Int32)) - (2 : Int32))), .val (.ref r2)] [(.int (2 : Int32)), (.int (0 : Int32))])) _
    refine XS.iload X2.here hx rfl (hb hby at_42) rfl ?_
    show Steps p.tables e below (T2.setTop (mkF m 44 #[.val (.int i0), .val (.int i1), .val (.int i2), .val (.int (2 : Int32)), .val (.int (((i1 >>> ((1 : Int32) &&& 31)) &&& (7 : Int32)) - (2 : Int32))), .val (.ref r2)] [(.int (((i1 >>> ((1 : Int32) &&& 31)) &&& (7 : Int32)) - (2 : Int32))), (.int (2 : Int32)), (.int (0 : Int32))])) _
    refine st3 _ ?_
    show Steps p.tables e below (T3.setTop (mkF m 47 #[.val (.int i0), .val (.int i1), .val (.int i2), .val (.int (2 : Int32)), .val (.int (((i1 >>> ((1 : Int32) &&& 31)) &&& (7 : Int32)) - (2 : Int32))), .val (.ref r2)] [(.int (0 : Int32)), (.int (0 : Int32))])) _
    refine XS.icmpNo X3.here hx rfl (hb hby at_47) rfl (teq (by decide : (0 : Int32) = (0 : Int32))).2 ?_
    show Steps p.tables e below (T3.setTop (mkF m 50 #[.val (.int i0), .val (.int i1), .val (.int i2), .val (.int (2 : Int32)), .val (.int (((i1 >>> ((1 : Int32) &&& 31)) &&& (7 : Int32)) - (2 : Int32))), .val (.ref r2)] [])) _
    refine XS.iconst X3.here hx rfl (hb hby at_50) ?_
    show Steps p.tables e below (T3.setTop (mkF m 51 #[.val (.int i0), .val (.int i1), .val (.int i2), .val (.int (2 : Int32)), .val (.int (((i1 >>> ((1 : Int32) &&& 31)) &&& (7 : Int32)) - (2 : Int32))), .val (.ref r2)] [(.int (1 : Int32))])) _
    refine XS.goto X3.here hx rfl (pc0 := 51) (pc' := 55) rfl (hb hby at_51) (by decide) (by decide) ?_
    show Steps p.tables e below (T3.setTop (mkF m 55 #[.val (.int i0), .val (.int i1), .val (.int i2), .val (.int (2 : Int32)), .val (.int (((i1 >>> ((1 : Int32) &&& 31)) &&& (7 : Int32)) - (2 : Int32))), .val (.ref r2)] [(.int (1 : Int32))])) _
    exact retN X3 hx (t := .boolean) Bd.returns (by simp) (hb hby at_55) hr
  · exact ⟨rfl, N3, e3⟩
theorem own_d1_26 : decode method_2_code 26 = .ok (.iload_n 0, 1) := by decide +kernel
theorem own_d1_27 : decode method_2_code 27 = .ok (.iconst 3, 1) := by decide +kernel
theorem own_d1_28 : decode method_2_code 28 = .ok (.if_icmp .ne 7, 3) := by decide +kernel
theorem own_d1_31 : decode method_2_code 31 = .ok (.getstatic 19, 3) := by decide +kernel
theorem own_d1_34 : decode method_2_code 34 = .ok (.areturn, 1) := by decide +kernel
set_option maxRecDepth 65536 in
set_option maxHeartbeats 40000000 in
theorem own_r1_33 (l : Launch) (Z : State) (a0 : Array Value) (hw : ∀ d ∈ tables_1, d.before a0 Z = true) (ws : List Jvm.Cond) (r0 : Addr) (r1 : Addr) (r2 : Addr) (r3 : Addr) (r4 : Addr) (r5 : Addr) (r6 : Addr) (r7 : Addr) (r8 : Addr) (r0_c : Addr) (cl_r0_c : Cell) (r1_c : Addr) (cl_r1_c : Cell) (r2_c : Addr) (cl_r2_c : Cell) (r3_c : Addr) (cl_r3_c : Cell) (r4_c : Addr) (cl_r4_c : Cell) (r5_c : Addr) (cl_r5_c : Cell) (r6_c : Addr) (cl_r6_c : Cell) (r7_c : Addr) (cl_r7_c : Cell) (r8_c : Addr) (cl_r8_c : Cell) (h0 : Heap) (n0 : Nat) (Z0 : n0 ≤ h0.size) (F : own_W Z h0 r0 r1 r2 r3 r4 r5 r6 r7 r8 r0_c cl_r0_c r1_c cl_r1_c r2_c cl_r2_c r3_c cl_r3_c r4_c cl_r4_c r5_c cl_r5_c r6_c cl_r6_c r7_c cl_r7_c r8_c cl_r8_c)   :
    MetFree l (⟨"com/example/urbana/urbana/protocol/CommandTakesPinLaw", "pick", "(I)Lcom/example/urbana/urbana/protocol/Command;"⟩ : MethodName) (head1 (Jvm.Cond.code (⟨"com/example/urbana/urbana/protocol/CommandTakesPinLaw", "pick", "(I)Lcom/example/urbana/urbana/protocol/Command;"⟩ : MethodName) method_2_code 1 (some (.object "com/example/urbana/urbana/protocol/Command")) :: ws) ({ frames := 0, cells := 0, slots := 0, locals := 0 } : Room)) (fun a U => a = #[(.int (3 : Int32))] ∧ Z.Warmed39 U.vm ∧ U.heap = h0) (fun _ _ _ _ _ => True) (fun _ U o U' => ∃ v L, o = .returned v ∧ own_Q (.ref r6) h0 n0 v U'.heap L ∧ FrameEnd U o U' L ({ frames := 0, cells := 0, slots := 0, locals := 0 } : Room).cells ({ frames := 0, cells := 0, slots := 0, locals := 0 } : Room).slots) := by
  obtain ⟨S_r0, E_r0, S_r1, E_r1, S_r2, E_r2, S_r3, E_r3, S_r4, E_r4, S_r5, E_r5, S_r6, E_r6, S_r7, E_r7, S_r8, E_r8, F_r0_counts, Ar_r0_c, F_r1_counts, Ar_r1_c, F_r2_counts, Ar_r2_c, F_r3_counts, Ar_r3_c, F_r4_counts, Ar_r4_c, F_r5_counts, Ar_r5_c, F_r6_counts, Ar_r6_c, F_r7_counts, Ar_r7_c, F_r8_counts, Ar_r8_c, Sz_r0_c, El_r0_c_0, Sz_r1_c, El_r1_c_0, El_r1_c_1, Sz_r2_c, El_r2_c_0, Sz_r3_c, Sz_r4_c, Sz_r5_c, Sz_r6_c, Sz_r7_c, Sz_r8_c⟩ := id F
  refine MetFree.of_bodySF (plainFor_of_name own_pn_CommandTakesPinLaw) hisR ?_
  intro p e s m args below meth c s₁ Bd hml0 hP hK
  obtain ⟨rfl, hZ, hh⟩ := hP
  have hx := Bd.exec
  have hby := Bd.bytes
  have hml : c.maxLocals = 1 := hml0
  have hown : s.vm.findClass "com/example/urbana/urbana/protocol/CommandTakesPinLaw" = some m.cls := findClass_of_methodNamed Bd.named
  have X0 : Stand p l e ({ frames := 0, cells := 0, slots := 0, locals := 0 } : Room) s m #[(.int (3 : Int32))] below meth c s₁ [] 0 0 := Stand.of_body Bd
  have e0 : s₁.heap = h0 := by rw [← hh, Bd.state]; rfl
  have N0 := Fr.nil n0
  have pre0 : ∀ t, Steps p.tables e below (s₁.setTop (mkF m 0 #[.val (.int (3 : Int32))] [])) t → Steps p.tables e below (s₁.setTop (entryFrame m #[(.int (3 : Int32))] 1)) t := fun t k => castTop (own_ef1_I m (3 : Int32)) k
  obtain ⟨T1, X1, e1, st1⟩ := getS2 X0 hx hZ hown (host := "") (Or.inl (hw _ (List.mem_of_getElem? (i := 28) rfl))) Via.refl e0 S_r6 (g := (mkF m 31 #[.val (.int (3 : Int32))] [])) rfl (hb hby own_d1_31)
  obtain ⟨fs, hr, hrun, hended, hW, hsame⟩ := X1.leave (v := some (.ref r6)) (fun h => by rw [Bd.returns] at h; cases h)
  refine ⟨_, _, pre0 _ ?_, hrun, hended, _, _, rfl, ?_, ⟨_, rfl⟩, hW, hsame.mono (by decide) (by decide)⟩
  · show Steps p.tables e below (s₁.setTop (mkF m 0 #[.val (.int (3 : Int32))] [])) _
    refine XS.iloadN X0.here hx rfl (hb hby own_d1_0) rfl ?_
    show Steps p.tables e below (s₁.setTop (mkF m 1 #[.val (.int (3 : Int32))] [(.int (3 : Int32))])) _
    refine XS.ifYes X0.here hx rfl (pc0 := 1) (pc' := 8) rfl (hb hby own_d1_1) rfl ((if0 _ _).trans (feq (by decide : ¬ ((3 : Int32) = (0 : Int32)))).2) (by decide) (by decide) ?_
    show Steps p.tables e below (s₁.setTop (mkF m 8 #[.val (.int (3 : Int32))] [])) _
    refine XS.iloadN X0.here hx rfl (hb hby own_d1_8) rfl ?_
    show Steps p.tables e below (s₁.setTop (mkF m 9 #[.val (.int (3 : Int32))] [(.int (3 : Int32))])) _
    refine XS.iconst X0.here hx rfl (hb hby own_d1_9) ?_
    show Steps p.tables e below (s₁.setTop (mkF m 10 #[.val (.int (3 : Int32))] [(.int (1 : Int32)), (.int (3 : Int32))])) _
    refine XS.icmpYes X0.here hx rfl (pc0 := 10) (pc' := 17) rfl (hb hby own_d1_10) rfl (feq (by decide : ¬ ((3 : Int32) = (1 : Int32)))).2 (by decide) (by decide) ?_
    show Steps p.tables e below (s₁.setTop (mkF m 17 #[.val (.int (3 : Int32))] [])) _
    refine XS.iloadN X0.here hx rfl (hb hby own_d1_17) rfl ?_
    show Steps p.tables e below (s₁.setTop (mkF m 18 #[.val (.int (3 : Int32))] [(.int (3 : Int32))])) _
    refine XS.iconst X0.here hx rfl (hb hby own_d1_18) ?_
    show Steps p.tables e below (s₁.setTop (mkF m 19 #[.val (.int (3 : Int32))] [(.int (2 : Int32)), (.int (3 : Int32))])) _
    refine XS.icmpYes X0.here hx rfl (pc0 := 19) (pc' := 26) rfl (hb hby own_d1_19) rfl (feq (by decide : ¬ ((3 : Int32) = (2 : Int32)))).2 (by decide) (by decide) ?_
    show Steps p.tables e below (s₁.setTop (mkF m 26 #[.val (.int (3 : Int32))] [])) _
    refine XS.iloadN X0.here hx rfl (hb hby own_d1_26) rfl ?_
    show Steps p.tables e below (s₁.setTop (mkF m 27 #[.val (.int (3 : Int32))] [(.int (3 : Int32))])) _
    refine XS.iconst X0.here hx rfl (hb hby own_d1_27) ?_
    show Steps p.tables e below (s₁.setTop (mkF m 28 #[.val (.int (3 : Int32))] [(.int (3 : Int32)), (.int (3 : Int32))])) _
    refine XS.icmpNo X0.here hx rfl (hb hby own_d1_28) rfl (teq (by decide : (3 : Int32) = (3 : Int32))).2 ?_
    show Steps p.tables e below (s₁.setTop (mkF m 31 #[.val (.int (3 : Int32))] [])) _
    refine st1 _ ?_
    show Steps p.tables e below (T1.setTop (mkF m 34 #[.val (.int (3 : Int32))] [(.ref r6)])) _
    jvm_step X1.here [X1.here.top, hx, (hb hby own_d1_34), X1.method', Bd.returns, Value.isRef, FieldType.isReference]
    first | (intro acts; rw [hr _ acts rfl rfl rfl]) | rw [hr _ _ rfl rfl rfl]
    exact Steps.refl _
  · exact ⟨rfl, N0, e1⟩
set_option maxRecDepth 65536 in
set_option maxHeartbeats 40000000 in
theorem own_r2_34 (l : Launch) (Z : State) (a0 : Array Value) (hw : ∀ d ∈ tables_1, d.before a0 Z = true) (ws : List Jvm.Cond) (r0 : Addr) (r1 : Addr) (r2 : Addr) (r3 : Addr) (r4 : Addr) (r5 : Addr) (r6 : Addr) (r7 : Addr) (r8 : Addr) (r0_c : Addr) (cl_r0_c : Cell) (r1_c : Addr) (cl_r1_c : Cell) (r2_c : Addr) (cl_r2_c : Cell) (r3_c : Addr) (cl_r3_c : Cell) (r4_c : Addr) (cl_r4_c : Cell) (r5_c : Addr) (cl_r5_c : Cell) (r6_c : Addr) (cl_r6_c : Cell) (r7_c : Addr) (cl_r7_c : Cell) (r8_c : Addr) (cl_r8_c : Cell) (h0 : Heap) (n0 : Nat) (Z0 : n0 ≤ h0.size) (F : own_W Z h0 r0 r1 r2 r3 r4 r5 r6 r7 r8 r0_c cl_r0_c r1_c cl_r1_c r2_c cl_r2_c r3_c cl_r3_c r4_c cl_r4_c r5_c cl_r5_c r6_c cl_r6_c r7_c cl_r7_c r8_c cl_r8_c) (q0 : Int32)  :
    MetFree l (⟨"com/example/urbana/urbana/protocol/Command", "takes", "(I)Z"⟩ : MethodName) (head1 (Jvm.Cond.code (⟨"com/example/urbana/urbana/protocol/Command", "takes", "(I)Z"⟩ : MethodName) prog_2_method_8_code 7 (some .boolean) :: ws) ({ frames := 0, cells := 0, slots := 0, locals := 0 } : Room)) (fun a U => a = #[(.ref r6), (.int q0)] ∧ Z.Warmed39 U.vm ∧ U.heap = h0) (fun _ _ _ _ _ => True) (fun _ U o U' => ∃ v L, o = .returned v ∧ own_Q (.int (0 : Int32)) h0 n0 v U'.heap L ∧ FrameEnd U o U' L ({ frames := 0, cells := 0, slots := 0, locals := 0 } : Room).cells ({ frames := 0, cells := 0, slots := 0, locals := 0 } : Room).slots) := by
  obtain ⟨S_r0, E_r0, S_r1, E_r1, S_r2, E_r2, S_r3, E_r3, S_r4, E_r4, S_r5, E_r5, S_r6, E_r6, S_r7, E_r7, S_r8, E_r8, F_r0_counts, Ar_r0_c, F_r1_counts, Ar_r1_c, F_r2_counts, Ar_r2_c, F_r3_counts, Ar_r3_c, F_r4_counts, Ar_r4_c, F_r5_counts, Ar_r5_c, F_r6_counts, Ar_r6_c, F_r7_counts, Ar_r7_c, F_r8_counts, Ar_r8_c, Sz_r0_c, El_r0_c_0, Sz_r1_c, El_r1_c_0, El_r1_c_1, Sz_r2_c, El_r2_c_0, Sz_r3_c, Sz_r4_c, Sz_r5_c, Sz_r6_c, Sz_r7_c, Sz_r8_c⟩ := id F
  refine MetFree.of_bodySF (plainFor_of_name own_pn_Command) hisR ?_
  intro p e s m args below meth c s₁ Bd hml0 hP hK
  obtain ⟨rfl, hZ, hh⟩ := hP
  have hx := Bd.exec
  have hby := Bd.bytes
  have hml : c.maxLocals = 7 := hml0
  have hown : s.vm.findClass "com/example/urbana/urbana/protocol/Command" = some m.cls := findClass_of_methodNamed Bd.named
  have X0 : Stand p l e ({ frames := 0, cells := 0, slots := 0, locals := 0 } : Room) s m #[(.ref r6), (.int q0)] below meth c s₁ [] 0 0 := Stand.of_body Bd
  have e0 : s₁.heap = h0 := by rw [← hh, Bd.state]; rfl
  have N0 := Fr.nil n0
  have pre0 : ∀ t, Steps p.tables e below (s₁.setTop (mkF m 0 #[.val (.ref r6), .val (.int q0), .unset, .unset, .unset, .unset, .unset] [])) t → Steps p.tables e below (s₁.setTop (entryFrame m #[(.ref r6), (.int q0)] 7)) t := fun t k => castTop (own_ef2_RI m r6 q0) k
  obtain ⟨T1, X1, e1, st1⟩ := getF X0 hx hZ hown (host := "") (Or.inl (hw _ (List.mem_of_getElem? (i := 13) rfl))) Via.refl e0 F_r6_counts (g := (mkF m 3 #[.val (.ref r6), .val (.int q0), .val (.int (0 : Int32)), .unset, .unset, .unset, .unset] [(.ref r6)])) rfl rfl (hb hby own_d2_3)
  obtain ⟨fs, hr, hrun, hended, hW, hsame⟩ := X1.leave (v := some (.int (0 : Int32))) (fun h => by rw [Bd.returns] at h; cases h)
  refine ⟨_, _, pre0 _ ?_, hrun, hended, _, _, rfl, ?_, ⟨_, rfl⟩, hW, hsame.mono (by decide) (by decide)⟩
  · show Steps p.tables e below (s₁.setTop (mkF m 0 #[.val (.ref r6), .val (.int q0), .unset, .unset, .unset, .unset, .unset] [])) _
    refine XS.iconst X0.here hx rfl (hb hby own_d2_0) ?_
    show Steps p.tables e below (s₁.setTop (mkF m 1 #[.val (.ref r6), .val (.int q0), .unset, .unset, .unset, .unset, .unset] [(.int (0 : Int32))])) _
    refine XS.istoreN X0.here hx rfl (hb hby own_d2_1) rfl (l' := #[.val (.ref r6), .val (.int q0), .val (.int (0 : Int32)), .unset, .unset, .unset, .unset]) rfl ?_
    show Steps p.tables e below (s₁.setTop (mkF m 2 #[.val (.ref r6), .val (.int q0), .val (.int (0 : Int32)), .unset, .unset, .unset, .unset] [])) _
    refine XS.aloadN X0.here hx rfl (hb hby own_d2_2) rfl rfl ?_
    show Steps p.tables e below (s₁.setTop (mkF m 3 #[.val (.ref r6), .val (.int q0), .val (.int (0 : Int32)), .unset, .unset, .unset, .unset] [(.ref r6)])) _
    refine st1 _ ?_
    show Steps p.tables e below (T1.setTop (mkF m 6 #[.val (.ref r6), .val (.int q0), .val (.int (0 : Int32)), .unset, .unset, .unset, .unset] [(.ref r6_c)])) _
    refine XS.astoreN X1.here hx rfl (hb hby own_d2_6) rfl rfl (l' := #[.val (.ref r6), .val (.int q0), .val (.int (0 : Int32)), .val (.ref r6_c), .unset, .unset, .unset]) rfl ?_
    show Steps p.tables e below (T1.setTop (mkF m 7 #[.val (.ref r6), .val (.int q0), .val (.int (0 : Int32)), .val (.ref r6_c), .unset, .unset, .unset] [])) _
    refine XS.aloadN X1.here hx rfl (hb hby own_d2_7) rfl rfl ?_
    show Steps p.tables e below (T1.setTop (mkF m 8 #[.val (.ref r6), .val (.int q0), .val (.int (0 : Int32)), .val (.ref r6_c), .unset, .unset, .unset] [(.ref r6_c)])) _
    refine X1.arraylength hx (by rw [e1]; exact Ar_r6_c.1) (State.isArrayOf_alike hZ.alike Ar_r6_c.2.1) (g := (mkF m 8 #[.val (.ref r6), .val (.int q0), .val (.int (0 : Int32)), .val (.ref r6_c), .unset, .unset, .unset] [(.ref r6_c)])) rfl rfl (hb hby own_d2_8) _ ?_
    rw [len_of Sz_r6_c (by decide)]
    show Steps p.tables e below (T1.setTop (mkF m 9 #[.val (.ref r6), .val (.int q0), .val (.int (0 : Int32)), .val (.ref r6_c), .unset, .unset, .unset] [(.int (0 : Int32))])) _
    refine XS.istore X1.here hx rfl (hb hby own_d2_9) rfl (l' := #[.val (.ref r6), .val (.int q0), .val (.int (0 : Int32)), .val (.ref r6_c), .val (.int (0 : Int32)), .unset, .unset]) rfl ?_
    show Steps p.tables e below (T1.setTop (mkF m 11 #[.val (.ref r6), .val (.int q0), .val (.int (0 : Int32)), .val (.ref r6_c), .val (.int (0 : Int32)), .unset, .unset] [])) _
    refine XS.iconst X1.here hx rfl (hb hby own_d2_11) ?_
    show Steps p.tables e below (T1.setTop (mkF m 12 #[.val (.ref r6), .val (.int q0), .val (.int (0 : Int32)), .val (.ref r6_c), .val (.int (0 : Int32)), .unset, .unset] [(.int (0 : Int32))])) _
    refine XS.istore X1.here hx rfl (hb hby own_d2_12) rfl (l' := #[.val (.ref r6), .val (.int q0), .val (.int (0 : Int32)), .val (.ref r6_c), .val (.int (0 : Int32)), .val (.int (0 : Int32)), .unset]) rfl ?_
    show Steps p.tables e below (T1.setTop (mkF m 14 #[.val (.ref r6), .val (.int q0), .val (.int (0 : Int32)), .val (.ref r6_c), .val (.int (0 : Int32)), .val (.int (0 : Int32)), .unset] [])) _
    refine XS.iload X1.here hx rfl (hb hby own_d2_14) rfl ?_
    show Steps p.tables e below (T1.setTop (mkF m 16 #[.val (.ref r6), .val (.int q0), .val (.int (0 : Int32)), .val (.ref r6_c), .val (.int (0 : Int32)), .val (.int (0 : Int32)), .unset] [(.int (0 : Int32))])) _
    refine XS.iload X1.here hx rfl (hb hby own_d2_16) rfl ?_
    show Steps p.tables e below (T1.setTop (mkF m 18 #[.val (.ref r6), .val (.int q0), .val (.int (0 : Int32)), .val (.ref r6_c), .val (.int (0 : Int32)), .val (.int (0 : Int32)), .unset] [(.int (0 : Int32)), (.int (0 : Int32))])) _
    refine XS.icmpYes X1.here hx rfl (pc0 := 18) (pc' := 47) rfl (hb hby own_d2_18) rfl (flt (by decide : ¬ ((0 : Int32) < (0 : Int32)))).2.1 (by decide) (by decide) ?_
    show Steps p.tables e below (T1.setTop (mkF m 47 #[.val (.ref r6), .val (.int q0), .val (.int (0 : Int32)), .val (.ref r6_c), .val (.int (0 : Int32)), .val (.int (0 : Int32)), .unset] [])) _
    refine XS.iloadN X1.here hx rfl (hb hby own_d2_47) rfl ?_
    show Steps p.tables e below (T1.setTop (mkF m 48 #[.val (.ref r6), .val (.int q0), .val (.int (0 : Int32)), .val (.ref r6_c), .val (.int (0 : Int32)), .val (.int (0 : Int32)), .unset] [(.int (0 : Int32))])) _
    exact retN X1 hx (t := .boolean) Bd.returns (by simp) (hb hby own_d2_48) hr
  · exact ⟨rfl, N0, e1⟩
theorem own_d3_51 : decode method_3_code 51 = .ok (.iconst 0, 1) := by decide +kernel
theorem own_d3_52 : decode method_3_code 52 = .ok (.ireturn, 1) := by decide +kernel
set_option maxRecDepth 65536 in
set_option maxHeartbeats 40000000 in
theorem own_r3_35 (l : Launch) (Z : State) (a0 : Array Value) (hw : ∀ d ∈ tables_1, d.before a0 Z = true) (ws : List Jvm.Cond) (r0 : Addr) (r1 : Addr) (r2 : Addr) (r3 : Addr) (r4 : Addr) (r5 : Addr) (r6 : Addr) (r7 : Addr) (r8 : Addr) (r0_c : Addr) (cl_r0_c : Cell) (r1_c : Addr) (cl_r1_c : Cell) (r2_c : Addr) (cl_r2_c : Cell) (r3_c : Addr) (cl_r3_c : Cell) (r4_c : Addr) (cl_r4_c : Cell) (r5_c : Addr) (cl_r5_c : Cell) (r6_c : Addr) (cl_r6_c : Cell) (r7_c : Addr) (cl_r7_c : Cell) (r8_c : Addr) (cl_r8_c : Cell) (h0 : Heap) (n0 : Nat) (Z0 : n0 ≤ h0.size) (F : own_W Z h0 r0 r1 r2 r3 r4 r5 r6 r7 r8 r0_c cl_r0_c r1_c cl_r1_c r2_c cl_r2_c r3_c cl_r3_c r4_c cl_r4_c r5_c cl_r5_c r6_c cl_r6_c r7_c cl_r7_c r8_c cl_r8_c) (q0 : Int32)  :
    MetFree l (⟨"com/example/urbana/urbana/protocol/CommandTakesPinLaw", "expected", "(II)Z"⟩ : MethodName) (head1 (Jvm.Cond.code (⟨"com/example/urbana/urbana/protocol/CommandTakesPinLaw", "expected", "(II)Z"⟩ : MethodName) method_3_code 2 (some .boolean) :: ws) ({ frames := 0, cells := 0, slots := 0, locals := 0 } : Room)) (fun a U => a = #[(.int (3 : Int32)), (.int q0)] ∧ Z.Warmed39 U.vm ∧ U.heap = h0) (fun _ _ _ _ _ => True) (fun _ U o U' => ∃ v L, o = .returned v ∧ own_Q (.int (0 : Int32)) h0 n0 v U'.heap L ∧ FrameEnd U o U' L ({ frames := 0, cells := 0, slots := 0, locals := 0 } : Room).cells ({ frames := 0, cells := 0, slots := 0, locals := 0 } : Room).slots) := by
  obtain ⟨S_r0, E_r0, S_r1, E_r1, S_r2, E_r2, S_r3, E_r3, S_r4, E_r4, S_r5, E_r5, S_r6, E_r6, S_r7, E_r7, S_r8, E_r8, F_r0_counts, Ar_r0_c, F_r1_counts, Ar_r1_c, F_r2_counts, Ar_r2_c, F_r3_counts, Ar_r3_c, F_r4_counts, Ar_r4_c, F_r5_counts, Ar_r5_c, F_r6_counts, Ar_r6_c, F_r7_counts, Ar_r7_c, F_r8_counts, Ar_r8_c, Sz_r0_c, El_r0_c_0, Sz_r1_c, El_r1_c_0, El_r1_c_1, Sz_r2_c, El_r2_c_0, Sz_r3_c, Sz_r4_c, Sz_r5_c, Sz_r6_c, Sz_r7_c, Sz_r8_c⟩ := id F
  refine MetFree.of_bodySF (plainFor_of_name own_pn_CommandTakesPinLaw) hisR ?_
  intro p e s m args below meth c s₁ Bd hml0 hP hK
  obtain ⟨rfl, hZ, hh⟩ := hP
  have hx := Bd.exec
  have hby := Bd.bytes
  have hml : c.maxLocals = 2 := hml0
  have hown : s.vm.findClass "com/example/urbana/urbana/protocol/CommandTakesPinLaw" = some m.cls := findClass_of_methodNamed Bd.named
  have X0 : Stand p l e ({ frames := 0, cells := 0, slots := 0, locals := 0 } : Room) s m #[(.int (3 : Int32)), (.int q0)] below meth c s₁ [] 0 0 := Stand.of_body Bd
  have e0 : s₁.heap = h0 := by rw [← hh, Bd.state]; rfl
  have N0 := Fr.nil n0
  have pre0 : ∀ t, Steps p.tables e below (s₁.setTop (mkF m 0 #[.val (.int (3 : Int32)), .val (.int q0)] [])) t → Steps p.tables e below (s₁.setTop (entryFrame m #[(.int (3 : Int32)), (.int q0)] 2)) t := fun t k => castTop (own_ef3_II m (3 : Int32) q0) k
  obtain ⟨fs, hr, hrun, hended, hW, hsame⟩ := X0.leave (v := some (.int (0 : Int32))) (fun h => by rw [Bd.returns] at h; cases h)
  refine ⟨_, _, pre0 _ ?_, hrun, hended, _, _, rfl, ?_, ⟨_, rfl⟩, hW, hsame.mono (by decide) (by decide)⟩
  · show Steps p.tables e below (s₁.setTop (mkF m 0 #[.val (.int (3 : Int32)), .val (.int q0)] [])) _
    refine XS.iloadN X0.here hx rfl (hb hby own_d3_0) rfl ?_
    show Steps p.tables e below (s₁.setTop (mkF m 1 #[.val (.int (3 : Int32)), .val (.int q0)] [(.int (3 : Int32))])) _
    refine XS.ifYes X0.here hx rfl (pc0 := 1) (pc' := 15) rfl (hb hby own_d3_1) rfl ((if0 _ _).trans (feq (by decide : ¬ ((3 : Int32) = (0 : Int32)))).2) (by decide) (by decide) ?_
    show Steps p.tables e below (s₁.setTop (mkF m 15 #[.val (.int (3 : Int32)), .val (.int q0)] [])) _
    refine XS.iloadN X0.here hx rfl (hb hby own_d3_15) rfl ?_
    show Steps p.tables e below (s₁.setTop (mkF m 16 #[.val (.int (3 : Int32)), .val (.int q0)] [(.int (3 : Int32))])) _
    refine XS.iconst X0.here hx rfl (hb hby own_d3_16) ?_
    show Steps p.tables e below (s₁.setTop (mkF m 17 #[.val (.int (3 : Int32)), .val (.int q0)] [(.int (1 : Int32)), (.int (3 : Int32))])) _
    refine XS.icmpYes X0.here hx rfl (pc0 := 17) (pc' := 35) rfl (hb hby own_d3_17) rfl (feq (by decide : ¬ ((3 : Int32) = (1 : Int32)))).2 (by decide) (by decide) ?_
    show Steps p.tables e below (s₁.setTop (mkF m 35 #[.val (.int (3 : Int32)), .val (.int q0)] [])) _
    refine XS.iloadN X0.here hx rfl (hb hby own_d3_35) rfl ?_
    show Steps p.tables e below (s₁.setTop (mkF m 36 #[.val (.int (3 : Int32)), .val (.int q0)] [(.int (3 : Int32))])) _
    refine XS.iconst X0.here hx rfl (hb hby own_d3_36) ?_
    show Steps p.tables e below (s₁.setTop (mkF m 37 #[.val (.int (3 : Int32)), .val (.int q0)] [(.int (2 : Int32)), (.int (3 : Int32))])) _
    refine XS.icmpYes X0.here hx rfl (pc0 := 37) (pc' := 51) rfl (hb hby own_d3_37) rfl (feq (by decide : ¬ ((3 : Int32) = (2 : Int32)))).2 (by decide) (by decide) ?_
    show Steps p.tables e below (s₁.setTop (mkF m 51 #[.val (.int (3 : Int32)), .val (.int q0)] [])) _
    refine XS.iconst X0.here hx rfl (hb hby own_d3_51) ?_
    show Steps p.tables e below (s₁.setTop (mkF m 52 #[.val (.int (3 : Int32)), .val (.int q0)] [(.int (0 : Int32))])) _
    exact retN X0 hx (t := .boolean) Bd.returns (by simp) (hb hby own_d3_52) hr
  · exact ⟨rfl, N0, e0⟩
set_option maxRecDepth 65536 in
set_option maxHeartbeats 40000000 in
theorem own_r0_k3m0c0 (l : Launch) (Z : State) (a0 : Array Value) (hw : ∀ d ∈ tables_1, d.before a0 Z = true) (ws : List Jvm.Cond) (r0 : Addr) (r1 : Addr) (r2 : Addr) (r3 : Addr) (r4 : Addr) (r5 : Addr) (r6 : Addr) (r7 : Addr) (r8 : Addr) (r0_c : Addr) (cl_r0_c : Cell) (r1_c : Addr) (cl_r1_c : Cell) (r2_c : Addr) (cl_r2_c : Cell) (r3_c : Addr) (cl_r3_c : Cell) (r4_c : Addr) (cl_r4_c : Cell) (r5_c : Addr) (cl_r5_c : Cell) (r6_c : Addr) (cl_r6_c : Cell) (r7_c : Addr) (cl_r7_c : Cell) (r8_c : Addr) (cl_r8_c : Cell) (h0 : Heap) (n0 : Nat) (Z0 : n0 ≤ h0.size) (F : own_W Z h0 r0 r1 r2 r3 r4 r5 r6 r7 r8 r0_c cl_r0_c r1_c cl_r1_c r2_c cl_r2_c r3_c cl_r3_c r4_c cl_r4_c r5_c cl_r5_c r6_c cl_r6_c r7_c cl_r7_c r8_c cl_r8_c) (i0 : Int32) (i1 : Int32) (i2 : Int32) (hk : ((i0 &&& (2147483647 : Int32)) % (9 : Int32)) = (3 : Int32)) (hm : (i1 &&& (1 : Int32)) = (0 : Int32)) :
    MetFree l x (head1 (Jvm.Cond.code x code maxLocals ret :: ws) room_1) (fun a U => a = #[(.int i0), (.int i1), (.int i2)] ∧ Z.Warmed39 U.vm ∧ U.heap = h0) (fun _ _ _ _ _ => True) (fun _ U o U' => ∃ v L, o = .returned v ∧ own_Q (.int (1 : Int32)) h0 n0 v U'.heap L ∧ FrameEnd U o U' L room_1.cells room_1.slots) := by
  obtain ⟨S_r0, E_r0, S_r1, E_r1, S_r2, E_r2, S_r3, E_r3, S_r4, E_r4, S_r5, E_r5, S_r6, E_r6, S_r7, E_r7, S_r8, E_r8, F_r0_counts, Ar_r0_c, F_r1_counts, Ar_r1_c, F_r2_counts, Ar_r2_c, F_r3_counts, Ar_r3_c, F_r4_counts, Ar_r4_c, F_r5_counts, Ar_r5_c, F_r6_counts, Ar_r6_c, F_r7_counts, Ar_r7_c, F_r8_counts, Ar_r8_c, Sz_r0_c, El_r0_c_0, Sz_r1_c, El_r1_c_0, El_r1_c_1, Sz_r2_c, El_r2_c_0, Sz_r3_c, Sz_r4_c, Sz_r5_c, Sz_r6_c, Sz_r7_c, Sz_r8_c⟩ := id F
  refine MetFree.of_bodySF (plainFor_of_name own_pn_CommandTakesPinLaw) hisR ?_
  intro p e s m args below meth c s₁ Bd hml0 hP hK
  obtain ⟨rfl, hZ, hh⟩ := hP
  have hx := Bd.exec
  have hby := Bd.bytes
  have hml : c.maxLocals = 6 := hml0
  have hown : s.vm.findClass "com/example/urbana/urbana/protocol/CommandTakesPinLaw" = some m.cls := findClass_of_methodNamed Bd.named
  have X0 : Stand p l e room_1 s m #[(.int i0), (.int i1), (.int i2)] below meth c s₁ [] 0 0 := Stand.of_body Bd
  have e0 : s₁.heap = h0 := by rw [← hh, Bd.state]; rfl
  have N0 := Fr.nil n0
  have pre0 : ∀ t, Steps p.tables e below (s₁.setTop (mkF m 0 #[.val (.int i0), .val (.int i1), .val (.int i2), .unset, .unset, .unset] [])) t → Steps p.tables e below (s₁.setTop (entryFrame m #[(.int i0), (.int i1), (.int i2)] maxLocals)) t := fun t k => castTop (own_ef0_III m i0 i1 i2) k
  obtain ⟨_, _, ⟨T1, L1, k1, n1⟩, -, X1, ⟨Lc1, hQ1, l1, y1, z1⟩, st1⟩ := Jvm.LawKit.callS X0 hx (y := (⟨"com/example/urbana/urbana/protocol/CommandTakesPinLaw", "pick", "(I)Lcom/example/urbana/urbana/protocol/Command;"⟩ : MethodName)) hown (mvT hZ (hw _ (List.mem_of_getElem? (i := 1) rfl))) (mvT hZ (hw _ (List.mem_of_getElem? (i := 2) rfl))) (mvT hZ (hw _ (List.mem_of_getElem? (i := 3) rfl))) (mvT hZ (hw _ (List.mem_of_getElem? (i := 4) rfl))) (by decide) (backOf (W := 0) (own_r1_33 l Z a0 hw [] r0 r1 r2 r3 r4 r5 r6 r7 r8 r0_c cl_r0_c r1_c cl_r1_c r2_c cl_r2_c r3_c cl_r3_c r4_c cl_r4_c r5_c cl_r5_c r6_c cl_r6_c r7_c cl_r7_c r8_c cl_r8_c h0 n0 Z0 F ) hZ (hw _ (List.mem_of_getElem? (i := 4) rfl)) (hw _ (List.mem_of_getElem? (i := 3) rfl)) (by decide) (by decide)) (g := (mkF m 29 #[.val (.int i0), .val (.int i1), .val (.int i2), .val (.int (3 : Int32)), .val (.int i2), .unset] [(.int (3 : Int32))])) rfl (by rw [hml]; rfl) (argsL := [(.int (3 : Int32))]) (rest := []) (lenOf own_pd0 rfl) rfl (by show 2 * 0 + _ ≤ _; exact Nat.le_of_eq rfl) (hb hby at_29) (fun _ _ => ⟨rfl, e0, (by decide : 0 + 0 ≤ _), (by decide : 0 + 0 ≤ _)⟩)
  dsimp only [Pt.U, Pt.locs, Pt.cells, Pt.slots] at X1 l1 y1 z1 st1 hQ1
  subst l1 y1 z1
  obtain ⟨rfl, N1q, e1⟩ := hQ1
  have N1 := Fr.app N0 N1q
  obtain ⟨cq2, kq2, q2a, q2b, q2c⟩ := isOf hZ e1 E_r6
  obtain ⟨_, _, ⟨T2, L2, k2, n2⟩, -, X2, ⟨Lc2, hQ2, l2, y2, z2⟩, st2⟩ := X1.virtualBack hx (y := (⟨"com/example/urbana/urbana/protocol/Command", "takes", "(I)Z"⟩ : MethodName)) (z := (⟨"com/example/urbana/urbana/protocol/Command", "takes", "(I)Z"⟩ : MethodName)) hown (mvT hZ (hw _ (List.mem_of_getElem? (i := 8) rfl))) (mvT hZ (hw _ (List.mem_of_getElem? (i := 9) rfl))) (notFace_of_selects (args := #[]) (mvT hZ (hw _ (List.mem_of_getElem? (i := 11) rfl)))) (mvT hZ (hw _ (List.mem_of_getElem? (i := 11) rfl))) (mvT hZ (hw _ (List.mem_of_getElem? (i := 10) rfl))) (by decide) (backOf (W := 0) (own_r2_34 l Z a0 hw [] r0 r1 r2 r3 r4 r5 r6 r7 r8 r0_c cl_r0_c r1_c cl_r1_c r2_c cl_r2_c r3_c cl_r3_c r4_c cl_r4_c r5_c cl_r5_c r6_c cl_r6_c r7_c cl_r7_c r8_c cl_r8_c h0 n0 Z0 F i2) hZ (hw _ (List.mem_of_getElem? (i := 12) rfl)) (hw _ (List.mem_of_getElem? (i := 6) rfl)) (by decide) (by decide)) q2a q2c (g := (mkF m 38 #[.val (.int i0), .val (.int i1), .val (.int i2), .val (.int (3 : Int32)), .val (.int i2), .val (.ref r6)] [(.int i2), (.ref r6)])) rfl (by rw [hml]; rfl) (Steps.refl _) (argsL := [(.int i2)]) (rest := []) (lenOf own_pd1 rfl) rfl (by show 2 * 0 + _ ≤ _; exact Nat.le_of_eq rfl) (hb hby at_38) (fun _ _ => ⟨rfl, e1, (by decide : 0 + 0 ≤ _), (by decide : 0 + 0 ≤ _)⟩)
  dsimp only [Pt.U, Pt.locs, Pt.cells, Pt.slots] at X2 l2 y2 z2 st2 hQ2
  subst l2 y2 z2
  obtain ⟨rfl, N2q, e2⟩ := hQ2
  have N2 := Fr.app N1 N2q
  obtain ⟨_, _, ⟨T3, L3, k3, n3⟩, -, X3, ⟨Lc3, hQ3, l3, y3, z3⟩, st3⟩ := Jvm.LawKit.callS X2 hx (y := (⟨"com/example/urbana/urbana/protocol/CommandTakesPinLaw", "expected", "(II)Z"⟩ : MethodName)) hown (mvT hZ (hw _ (List.mem_of_getElem? (i := 15) rfl))) (mvT hZ (hw _ (List.mem_of_getElem? (i := 16) rfl))) (mvT hZ (hw _ (List.mem_of_getElem? (i := 3) rfl))) (mvT hZ (hw _ (List.mem_of_getElem? (i := 17) rfl))) (by decide) (backOf (W := 1) (own_r3_35 l Z a0 hw [] r0 r1 r2 r3 r4 r5 r6 r7 r8 r0_c cl_r0_c r1_c cl_r1_c r2_c cl_r2_c r3_c cl_r3_c r4_c cl_r4_c r5_c cl_r5_c r6_c cl_r6_c r7_c cl_r7_c r8_c cl_r8_c h0 n0 Z0 F i2) hZ (hw _ (List.mem_of_getElem? (i := 17) rfl)) (hw _ (List.mem_of_getElem? (i := 3) rfl)) (by decide) (by decide)) (g := (mkF m 44 #[.val (.int i0), .val (.int i1), .val (.int i2), .val (.int (3 : Int32)), .val (.int i2), .val (.ref r6)] [(.int i2), (.int (3 : Int32)), (.int (0 : Int32))])) rfl (by rw [hml]; rfl) (argsL := [(.int (3 : Int32)), (.int i2)]) (rest := [(.int (0 : Int32))]) (lenOf own_pd2 rfl) rfl (by show 2 * 0 + _ ≤ _; exact Nat.le_of_eq rfl) (hb hby at_44) (fun _ _ => ⟨rfl, e2, (by decide : 0 + 0 ≤ _), (by decide : 0 + 0 ≤ _)⟩)
  dsimp only [Pt.U, Pt.locs, Pt.cells, Pt.slots] at X3 l3 y3 z3 st3 hQ3
  subst l3 y3 z3
  obtain ⟨rfl, N3q, e3⟩ := hQ3
  have N3 := Fr.app N2 N3q
  obtain ⟨fs, hr, hrun, hended, hW, hsame⟩ := X3.leave (v := some (.int (1 : Int32))) (fun h => by rw [Bd.returns] at h; cases h)
  refine ⟨_, _, pre0 _ ?_, hrun, hended, _, _, rfl, ?_, ⟨_, rfl⟩, hW, hsame.mono (by decide) (by decide)⟩
  · show Steps p.tables e below (s₁.setTop (mkF m 0 #[.val (.int i0), .val (.int i1), .val (.int i2), .unset, .unset, .unset] [])) _
    refine XS.iloadN X0.here hx rfl (hb hby at_0) rfl ?_
    show Steps p.tables e below (s₁.setTop (mkF m 1 #[.val (.int i0), .val (.int i1), .val (.int i2), .unset, .unset, .unset] [(.int i0)])) _
    refine X0.ldcInt hx hown (mvT hZ (hw _ (List.mem_of_getElem? (i := 0) rfl))) (g := (mkF m 1 #[.val (.int i0), .val (.int i1), .val (.int i2), .unset, .unset, .unset] [(.int i0)])) rfl (hb hby at_1) _ ?_
    show Steps p.tables e below (s₁.setTop (mkF m 3 #[.val (.int i0), .val (.int i1), .val (.int i2), .unset, .unset, .unset] [(.int (2147483647 : Int32)), (.int i0)])) _
    refine XS.iand X0.here hx rfl (hb hby at_3) rfl ?_
    show Steps p.tables e below (s₁.setTop (mkF m 4 #[.val (.int i0), .val (.int i1), .val (.int i2), .unset, .unset, .unset] [(.int (i0 &&& (2147483647 : Int32)))])) _
    refine XS.bipush X0.here hx rfl (hb hby at_4) ?_
    show Steps p.tables e below (s₁.setTop (mkF m 6 #[.val (.int i0), .val (.int i1), .val (.int i2), .unset, .unset, .unset] [(.int (9 : Int32)), (.int (i0 &&& (2147483647 : Int32)))])) _
    refine iremM (g := (mkF m 6 #[.val (.int i0), .val (.int i1), .val (.int i2), .unset, .unset, .unset] [(.int (9 : Int32)), (.int (i0 &&& (2147483647 : Int32)))])) X0 hx rfl (hb hby at_6) rfl (by decide) ?_
    show Steps p.tables e below (s₁.setTop (mkF m 7 #[.val (.int i0), .val (.int i1), .val (.int i2), .unset, .unset, .unset] [(.int ((i0 &&& (2147483647 : Int32)) % (9 : Int32)))])) _
    rw [hk]
    show Steps p.tables e below (s₁.setTop (mkF m 7 #[.val (.int i0), .val (.int i1), .val (.int i2), .unset, .unset, .unset] [(.int (3 : Int32))])) _
    refine XS.istoreN X0.here hx rfl (hb hby at_7) rfl (l' := #[.val (.int i0), .val (.int i1), .val (.int i2), .val (.int (3 : Int32)), .unset, .unset]) rfl ?_
    show Steps p.tables e below (s₁.setTop (mkF m 8 #[.val (.int i0), .val (.int i1), .val (.int i2), .val (.int (3 : Int32)), .unset, .unset] [])) _
    refine XS.iloadN X0.here hx rfl (hb hby at_8) rfl ?_
    show Steps p.tables e below (s₁.setTop (mkF m 9 #[.val (.int i0), .val (.int i1), .val (.int i2), .val (.int (3 : Int32)), .unset, .unset] [(.int i1)])) _
    refine XS.iconst X0.here hx rfl (hb hby at_9) ?_
    show Steps p.tables e below (s₁.setTop (mkF m 10 #[.val (.int i0), .val (.int i1), .val (.int i2), .val (.int (3 : Int32)), .unset, .unset] [(.int (1 : Int32)), (.int i1)])) _
    refine XS.iand X0.here hx rfl (hb hby at_10) rfl ?_
    show Steps p.tables e below (s₁.setTop (mkF m 11 #[.val (.int i0), .val (.int i1), .val (.int i2), .val (.int (3 : Int32)), .unset, .unset] [(.int (i1 &&& (1 : Int32)))])) _
    rw [hm]
    show Steps p.tables e below (s₁.setTop (mkF m 11 #[.val (.int i0), .val (.int i1), .val (.int i2), .val (.int (3 : Int32)), .unset, .unset] [(.int (0 : Int32))])) _
    refine XS.ifYes X0.here hx rfl (pc0 := 11) (pc' := 25) rfl (hb hby at_11) rfl ((if0 _ _).trans (teq (by decide : (0 : Int32) = (0 : Int32))).1) (by decide) (by decide) ?_
    show Steps p.tables e below (s₁.setTop (mkF m 25 #[.val (.int i0), .val (.int i1), .val (.int i2), .val (.int (3 : Int32)), .unset, .unset] [])) _
    refine XS.iloadN X0.here hx rfl (hb hby at_25) rfl ?_
    show Steps p.tables e below (s₁.setTop (mkF m 26 #[.val (.int i0), .val (.int i1), .val (.int i2), .val (.int (3 : Int32)), .unset, .unset] [(.int i2)])) _
    refine XS.istore X0.here hx rfl (hb hby at_26) rfl (l' := #[.val (.int i0), .val (.int i1), .val (.int i2), .val (.int (3 : Int32)), .val (.int i2), .unset]) rfl ?_
    show Steps p.tables e below (s₁.setTop (mkF m 28 #[.val (.int i0), .val (.int i1), .val (.int i2), .val (.int (3 : Int32)), .val (.int i2), .unset] [])) _
    refine XS.iloadN X0.here hx rfl (hb hby at_28) rfl ?_
    show Steps p.tables e below (s₁.setTop (mkF m 29 #[.val (.int i0), .val (.int i1), .val (.int i2), .val (.int (3 : Int32)), .val (.int i2), .unset] [(.int (3 : Int32))])) _
    refine st1 _ ?_
    show Steps p.tables e below (T1.setTop (mkF m 32 #[.val (.int i0), .val (.int i1), .val (.int i2), .val (.int (3 : Int32)), .val (.int i2), .unset] [(.ref r6)])) _
    refine XS.astore X1.here hx rfl (hb hby at_32) rfl rfl (l' := #[.val (.int i0), .val (.int i1), .val (.int i2), .val (.int (3 : Int32)), .val (.int i2), .val (.ref r6)]) rfl ?_
    show Steps p.tables e below (T1.setTop (mkF m 34 #[.val (.int i0), .val (.int i1), .val (.int i2), .val (.int (3 : Int32)), .val (.int i2), .val (.ref r6)] [])) _
    refine XS.aload X1.here hx rfl (hb hby at_34) rfl rfl ?_
    show Steps p.tables e below (T1.setTop (mkF m 36 #[.val (.int i0), .val (.int i1), .val (.int i2), .val (.int (3 : Int32)), .val (.int i2), .val (.ref r6)] [(.ref r6)])) _
    refine XS.iload X1.here hx rfl (hb hby at_36) rfl ?_
    show Steps p.tables e below (T1.setTop (mkF m 38 #[.val (.int i0), .val (.int i1), .val (.int i2), .val (.int (3 : Int32)), .val (.int i2), .val (.ref r6)] [(.int i2), (.ref r6)])) _
    refine st2.trans ?_
    show Steps p.tables e below (T2.setTop (mkF m 41 #[.val (.int i0), .val (.int i1), .val (.int i2), .val (.int (3 : Int32)), .val (.int i2), .val (.ref r6)] [(.int (0 : Int32))])) _
    refine XS.iloadN X2.here hx rfl (hb hby at_41) rfl ?_
    show Steps p.tables e below (T2.setTop (mkF m 42 #[.val (.int i0), .val (.int i1), .val (.int i2), .val (.int (3 : Int32)), .val (.int i2), .val (.ref r6)] [(.int (3 : Int32)), (.int (0 : Int32))])) _
    refine XS.iload X2.here hx rfl (hb hby at_42) rfl ?_
    show Steps p.tables e below (T2.setTop (mkF m 44 #[.val (.int i0), .val (.int i1), .val (.int i2), .val (.int (3 : Int32)), .val (.int i2), .val (.ref r6)] [(.int i2), (.int (3 : Int32)), (.int (0 : Int32))])) _
    refine st3 _ ?_
    show Steps p.tables e below (T3.setTop (mkF m 47 #[.val (.int i0), .val (.int i1), .val (.int i2), .val (.int (3 : Int32)), .val (.int i2), .val (.ref r6)] [(.int (0 : Int32)), (.int (0 : Int32))])) _
    refine XS.icmpNo X3.here hx rfl (hb hby at_47) rfl (teq (by decide : (0 : Int32) = (0 : Int32))).2 ?_
    show Steps p.tables e below (T3.setTop (mkF m 50 #[.val (.int i0), .val (.int i1), .val (.int i2), .val (.int (3 : Int32)), .val (.int i2), .val (.ref r6)] [])) _
    refine XS.iconst X3.here hx rfl (hb hby at_50) ?_
    show Steps p.tables e below (T3.setTop (mkF m 51 #[.val (.int i0), .val (.int i1), .val (.int i2), .val (.int (3 : Int32)), .val (.int i2), .val (.ref r6)] [(.int (1 : Int32))])) _
    refine XS.goto X3.here hx rfl (pc0 := 51) (pc' := 55) rfl (hb hby at_51) (by decide) (by decide) ?_
    show Steps p.tables e below (T3.setTop (mkF m 55 #[.val (.int i0), .val (.int i1), .val (.int i2), .val (.int (3 : Int32)), .val (.int i2), .val (.ref r6)] [(.int (1 : Int32))])) _
    exact retN X3 hx (t := .boolean) Bd.returns (by simp) (hb hby at_55) hr
  · exact ⟨rfl, N3, e3⟩
set_option maxRecDepth 65536 in
set_option maxHeartbeats 40000000 in
theorem own_r0_k3m1c0 (l : Launch) (Z : State) (a0 : Array Value) (hw : ∀ d ∈ tables_1, d.before a0 Z = true) (ws : List Jvm.Cond) (r0 : Addr) (r1 : Addr) (r2 : Addr) (r3 : Addr) (r4 : Addr) (r5 : Addr) (r6 : Addr) (r7 : Addr) (r8 : Addr) (r0_c : Addr) (cl_r0_c : Cell) (r1_c : Addr) (cl_r1_c : Cell) (r2_c : Addr) (cl_r2_c : Cell) (r3_c : Addr) (cl_r3_c : Cell) (r4_c : Addr) (cl_r4_c : Cell) (r5_c : Addr) (cl_r5_c : Cell) (r6_c : Addr) (cl_r6_c : Cell) (r7_c : Addr) (cl_r7_c : Cell) (r8_c : Addr) (cl_r8_c : Cell) (h0 : Heap) (n0 : Nat) (Z0 : n0 ≤ h0.size) (F : own_W Z h0 r0 r1 r2 r3 r4 r5 r6 r7 r8 r0_c cl_r0_c r1_c cl_r1_c r2_c cl_r2_c r3_c cl_r3_c r4_c cl_r4_c r5_c cl_r5_c r6_c cl_r6_c r7_c cl_r7_c r8_c cl_r8_c) (i0 : Int32) (i1 : Int32) (i2 : Int32) (hk : ((i0 &&& (2147483647 : Int32)) % (9 : Int32)) = (3 : Int32)) (hm : (i1 &&& (1 : Int32)) = (1 : Int32)) :
    MetFree l x (head1 (Jvm.Cond.code x code maxLocals ret :: ws) room_1) (fun a U => a = #[(.int i0), (.int i1), (.int i2)] ∧ Z.Warmed39 U.vm ∧ U.heap = h0) (fun _ _ _ _ _ => True) (fun _ U o U' => ∃ v L, o = .returned v ∧ own_Q (.int (1 : Int32)) h0 n0 v U'.heap L ∧ FrameEnd U o U' L room_1.cells room_1.slots) := by
  obtain ⟨S_r0, E_r0, S_r1, E_r1, S_r2, E_r2, S_r3, E_r3, S_r4, E_r4, S_r5, E_r5, S_r6, E_r6, S_r7, E_r7, S_r8, E_r8, F_r0_counts, Ar_r0_c, F_r1_counts, Ar_r1_c, F_r2_counts, Ar_r2_c, F_r3_counts, Ar_r3_c, F_r4_counts, Ar_r4_c, F_r5_counts, Ar_r5_c, F_r6_counts, Ar_r6_c, F_r7_counts, Ar_r7_c, F_r8_counts, Ar_r8_c, Sz_r0_c, El_r0_c_0, Sz_r1_c, El_r1_c_0, El_r1_c_1, Sz_r2_c, El_r2_c_0, Sz_r3_c, Sz_r4_c, Sz_r5_c, Sz_r6_c, Sz_r7_c, Sz_r8_c⟩ := id F
  refine MetFree.of_bodySF (plainFor_of_name own_pn_CommandTakesPinLaw) hisR ?_
  intro p e s m args below meth c s₁ Bd hml0 hP hK
  obtain ⟨rfl, hZ, hh⟩ := hP
  have hx := Bd.exec
  have hby := Bd.bytes
  have hml : c.maxLocals = 6 := hml0
  have hown : s.vm.findClass "com/example/urbana/urbana/protocol/CommandTakesPinLaw" = some m.cls := findClass_of_methodNamed Bd.named
  have X0 : Stand p l e room_1 s m #[(.int i0), (.int i1), (.int i2)] below meth c s₁ [] 0 0 := Stand.of_body Bd
  have e0 : s₁.heap = h0 := by rw [← hh, Bd.state]; rfl
  have N0 := Fr.nil n0
  have pre0 : ∀ t, Steps p.tables e below (s₁.setTop (mkF m 0 #[.val (.int i0), .val (.int i1), .val (.int i2), .unset, .unset, .unset] [])) t → Steps p.tables e below (s₁.setTop (entryFrame m #[(.int i0), (.int i1), (.int i2)] maxLocals)) t := fun t k => castTop (own_ef0_III m i0 i1 i2) k
  obtain ⟨_, _, ⟨T1, L1, k1, n1⟩, -, X1, ⟨Lc1, hQ1, l1, y1, z1⟩, st1⟩ := Jvm.LawKit.callS X0 hx (y := (⟨"com/example/urbana/urbana/protocol/CommandTakesPinLaw", "pick", "(I)Lcom/example/urbana/urbana/protocol/Command;"⟩ : MethodName)) hown (mvT hZ (hw _ (List.mem_of_getElem? (i := 1) rfl))) (mvT hZ (hw _ (List.mem_of_getElem? (i := 2) rfl))) (mvT hZ (hw _ (List.mem_of_getElem? (i := 3) rfl))) (mvT hZ (hw _ (List.mem_of_getElem? (i := 4) rfl))) (by decide) (backOf (W := 0) (own_r1_33 l Z a0 hw [] r0 r1 r2 r3 r4 r5 r6 r7 r8 r0_c cl_r0_c r1_c cl_r1_c r2_c cl_r2_c r3_c cl_r3_c r4_c cl_r4_c r5_c cl_r5_c r6_c cl_r6_c r7_c cl_r7_c r8_c cl_r8_c h0 n0 Z0 F ) hZ (hw _ (List.mem_of_getElem? (i := 4) rfl)) (hw _ (List.mem_of_getElem? (i := 3) rfl)) (by decide) (by decide)) (g := (mkF m 29 #[.val (.int i0), .val (.int i1), .val (.int i2), .val (.int (3 : Int32)), .val (.int (((i1 >>> ((1 : Int32) &&& 31)) &&& (7 : Int32)) - (2 : Int32))), .unset] [(.int (3 : Int32))])) rfl (by rw [hml]; rfl) (argsL := [(.int (3 : Int32))]) (rest := []) (lenOf own_pd0 rfl) rfl (by show 2 * 0 + _ ≤ _; exact Nat.le_of_eq rfl) (hb hby at_29) (fun _ _ => ⟨rfl, e0, (by decide : 0 + 0 ≤ _), (by decide : 0 + 0 ≤ _)⟩)
  dsimp only [Pt.U, Pt.locs, Pt.cells, Pt.slots] at X1 l1 y1 z1 st1 hQ1
  subst l1 y1 z1
  obtain ⟨rfl, N1q, e1⟩ := hQ1
  have N1 := Fr.app N0 N1q
  obtain ⟨cq2, kq2, q2a, q2b, q2c⟩ := isOf hZ e1 E_r6
  obtain ⟨_, _, ⟨T2, L2, k2, n2⟩, -, X2, ⟨Lc2, hQ2, l2, y2, z2⟩, st2⟩ := X1.virtualBack hx (y := (⟨"com/example/urbana/urbana/protocol/Command", "takes", "(I)Z"⟩ : MethodName)) (z := (⟨"com/example/urbana/urbana/protocol/Command", "takes", "(I)Z"⟩ : MethodName)) hown (mvT hZ (hw _ (List.mem_of_getElem? (i := 8) rfl))) (mvT hZ (hw _ (List.mem_of_getElem? (i := 9) rfl))) (notFace_of_selects (args := #[]) (mvT hZ (hw _ (List.mem_of_getElem? (i := 11) rfl)))) (mvT hZ (hw _ (List.mem_of_getElem? (i := 11) rfl))) (mvT hZ (hw _ (List.mem_of_getElem? (i := 10) rfl))) (by decide) (backOf (W := 0) (own_r2_34 l Z a0 hw [] r0 r1 r2 r3 r4 r5 r6 r7 r8 r0_c cl_r0_c r1_c cl_r1_c r2_c cl_r2_c r3_c cl_r3_c r4_c cl_r4_c r5_c cl_r5_c r6_c cl_r6_c r7_c cl_r7_c r8_c cl_r8_c h0 n0 Z0 F (((i1 >>> ((1 : Int32) &&& 31)) &&& (7 : Int32)) - (2 : Int32))) hZ (hw _ (List.mem_of_getElem? (i := 12) rfl)) (hw _ (List.mem_of_getElem? (i := 6) rfl)) (by decide) (by decide)) q2a q2c (g := (mkF m 38 #[.val (.int i0), .val (.int i1), .val (.int i2), .val (.int (3 : Int32)), .val (.int (((i1 >>> ((1 : Int32) &&& 31)) &&& (7 : Int32)) - (2 : Int32))), .val (.ref r6)] [(.int (((i1 >>> ((1 : Int32) &&& 31)) &&& (7 : Int32)) - (2 : Int32))), (.ref r6)])) rfl (by rw [hml]; rfl) (Steps.refl _) (argsL := [(.int (((i1 >>> ((1 : Int32) &&& 31)) &&& (7 : Int32)) - (2 : Int32)))]) (rest := []) (lenOf own_pd1 rfl) rfl (by show 2 * 0 + _ ≤ _; exact Nat.le_of_eq rfl) (hb hby at_38) (fun _ _ => ⟨rfl, e1, (by decide : 0 + 0 ≤ _), (by decide : 0 + 0 ≤ _)⟩)
  dsimp only [Pt.U, Pt.locs, Pt.cells, Pt.slots] at X2 l2 y2 z2 st2 hQ2
  subst l2 y2 z2
  obtain ⟨rfl, N2q, e2⟩ := hQ2
  have N2 := Fr.app N1 N2q
  obtain ⟨_, _, ⟨T3, L3, k3, n3⟩, -, X3, ⟨Lc3, hQ3, l3, y3, z3⟩, st3⟩ := Jvm.LawKit.callS X2 hx (y := (⟨"com/example/urbana/urbana/protocol/CommandTakesPinLaw", "expected", "(II)Z"⟩ : MethodName)) hown (mvT hZ (hw _ (List.mem_of_getElem? (i := 15) rfl))) (mvT hZ (hw _ (List.mem_of_getElem? (i := 16) rfl))) (mvT hZ (hw _ (List.mem_of_getElem? (i := 3) rfl))) (mvT hZ (hw _ (List.mem_of_getElem? (i := 17) rfl))) (by decide) (backOf (W := 1) (own_r3_35 l Z a0 hw [] r0 r1 r2 r3 r4 r5 r6 r7 r8 r0_c cl_r0_c r1_c cl_r1_c r2_c cl_r2_c r3_c cl_r3_c r4_c cl_r4_c r5_c cl_r5_c r6_c cl_r6_c r7_c cl_r7_c r8_c cl_r8_c h0 n0 Z0 F (((i1 >>> ((1 : Int32) &&& 31)) &&& (7 : Int32)) - (2 : Int32))) hZ (hw _ (List.mem_of_getElem? (i := 17) rfl)) (hw _ (List.mem_of_getElem? (i := 3) rfl)) (by decide) (by decide)) (g := (mkF m 44 #[.val (.int i0), .val (.int i1), .val (.int i2), .val (.int (3 : Int32)), .val (.int (((i1 >>> ((1 : Int32) &&& 31)) &&& (7 : Int32)) - (2 : Int32))), .val (.ref r6)] [(.int (((i1 >>> ((1 : Int32) &&& 31)) &&& (7 : Int32)) - (2 : Int32))), (.int (3 : Int32)), (.int (0 : Int32))])) rfl (by rw [hml]; rfl) (argsL := [(.int (3 : Int32)), (.int (((i1 >>> ((1 : Int32) &&& 31)) &&& (7 : Int32)) - (2 : Int32)))]) (rest := [(.int (0 : Int32))]) (lenOf own_pd2 rfl) rfl (by show 2 * 0 + _ ≤ _; exact Nat.le_of_eq rfl) (hb hby at_44) (fun _ _ => ⟨rfl, e2, (by decide : 0 + 0 ≤ _), (by decide : 0 + 0 ≤ _)⟩)
  dsimp only [Pt.U, Pt.locs, Pt.cells, Pt.slots] at X3 l3 y3 z3 st3 hQ3
  subst l3 y3 z3
  obtain ⟨rfl, N3q, e3⟩ := hQ3
  have N3 := Fr.app N2 N3q
  obtain ⟨fs, hr, hrun, hended, hW, hsame⟩ := X3.leave (v := some (.int (1 : Int32))) (fun h => by rw [Bd.returns] at h; cases h)
  refine ⟨_, _, pre0 _ ?_, hrun, hended, _, _, rfl, ?_, ⟨_, rfl⟩, hW, hsame.mono (by decide) (by decide)⟩
  · show Steps p.tables e below (s₁.setTop (mkF m 0 #[.val (.int i0), .val (.int i1), .val (.int i2), .unset, .unset, .unset] [])) _
    refine XS.iloadN X0.here hx rfl (hb hby at_0) rfl ?_
    show Steps p.tables e below (s₁.setTop (mkF m 1 #[.val (.int i0), .val (.int i1), .val (.int i2), .unset, .unset, .unset] [(.int i0)])) _
    refine X0.ldcInt hx hown (mvT hZ (hw _ (List.mem_of_getElem? (i := 0) rfl))) (g := (mkF m 1 #[.val (.int i0), .val (.int i1), .val (.int i2), .unset, .unset, .unset] [(.int i0)])) rfl (hb hby at_1) _ ?_
    show Steps p.tables e below (s₁.setTop (mkF m 3 #[.val (.int i0), .val (.int i1), .val (.int i2), .unset, .unset, .unset] [(.int (2147483647 : Int32)), (.int i0)])) _
    refine XS.iand X0.here hx rfl (hb hby at_3) rfl ?_
    show Steps p.tables e below (s₁.setTop (mkF m 4 #[.val (.int i0), .val (.int i1), .val (.int i2), .unset, .unset, .unset] [(.int (i0 &&& (2147483647 : Int32)))])) _
    refine XS.bipush X0.here hx rfl (hb hby at_4) ?_
    show Steps p.tables e below (s₁.setTop (mkF m 6 #[.val (.int i0), .val (.int i1), .val (.int i2), .unset, .unset, .unset] [(.int (9 : Int32)), (.int (i0 &&& (2147483647 : Int32)))])) _
    refine iremM (g := (mkF m 6 #[.val (.int i0), .val (.int i1), .val (.int i2), .unset, .unset, .unset] [(.int (9 : Int32)), (.int (i0 &&& (2147483647 : Int32)))])) X0 hx rfl (hb hby at_6) rfl (by decide) ?_
    show Steps p.tables e below (s₁.setTop (mkF m 7 #[.val (.int i0), .val (.int i1), .val (.int i2), .unset, .unset, .unset] [(.int ((i0 &&& (2147483647 : Int32)) % (9 : Int32)))])) _
    rw [hk]
    show Steps p.tables e below (s₁.setTop (mkF m 7 #[.val (.int i0), .val (.int i1), .val (.int i2), .unset, .unset, .unset] [(.int (3 : Int32))])) _
    refine XS.istoreN X0.here hx rfl (hb hby at_7) rfl (l' := #[.val (.int i0), .val (.int i1), .val (.int i2), .val (.int (3 : Int32)), .unset, .unset]) rfl ?_
    show Steps p.tables e below (s₁.setTop (mkF m 8 #[.val (.int i0), .val (.int i1), .val (.int i2), .val (.int (3 : Int32)), .unset, .unset] [])) _
    refine XS.iloadN X0.here hx rfl (hb hby at_8) rfl ?_
    show Steps p.tables e below (s₁.setTop (mkF m 9 #[.val (.int i0), .val (.int i1), .val (.int i2), .val (.int (3 : Int32)), .unset, .unset] [(.int i1)])) _
    refine XS.iconst X0.here hx rfl (hb hby at_9) ?_
    show Steps p.tables e below (s₁.setTop (mkF m 10 #[.val (.int i0), .val (.int i1), .val (.int i2), .val (.int (3 : Int32)), .unset, .unset] [(.int (1 : Int32)), (.int i1)])) _
    refine XS.iand X0.here hx rfl (hb hby at_10) rfl ?_
    show Steps p.tables e below (s₁.setTop (mkF m 11 #[.val (.int i0), .val (.int i1), .val (.int i2), .val (.int (3 : Int32)), .unset, .unset] [(.int (i1 &&& (1 : Int32)))])) _
    rw [hm]
    show Steps p.tables e below (s₁.setTop (mkF m 11 #[.val (.int i0), .val (.int i1), .val (.int i2), .val (.int (3 : Int32)), .unset, .unset] [(.int (1 : Int32))])) _
    refine XS.ifNo X0.here hx rfl (hb hby at_11) rfl ((if0 _ _).trans (feq (by decide : ¬ ((1 : Int32) = (0 : Int32)))).1) ?_
    show Steps p.tables e below (s₁.setTop (mkF m 14 #[.val (.int i0), .val (.int i1), .val (.int i2), .val (.int (3 : Int32)), .unset, .unset] [])) _
    refine XS.iloadN X0.here hx rfl (hb hby at_14) rfl ?_
    show Steps p.tables e below (s₁.setTop (mkF m 15 #[.val (.int i0), .val (.int i1), .val (.int i2), .val (.int (3 : Int32)), .unset, .unset] [(.int i1)])) _
    refine XS.iconst X0.here hx rfl (hb hby at_15) ?_
    show Steps p.tables e below (s₁.setTop (mkF m 16 #[.val (.int i0), .val (.int i1), .val (.int i2), .val (.int (3 : Int32)), .unset, .unset] [(.int (1 : Int32)), (.int i1)])) _
    refine XS.ishr X0.here hx rfl (hb hby at_16) rfl ?_
    show Steps p.tables e below (s₁.setTop (mkF m 17 #[.val (.int i0), .val (.int i1), .val (.int i2), .val (.int (3 : Int32)), .unset, .unset] [(.int (i1 >>> ((1 : Int32) &&& 31)))])) _
    refine XS.bipush X0.here hx rfl (hb hby at_17) ?_
    show Steps p.tables e below (s₁.setTop (mkF m 19 #[.val (.int i0), .val (.int i1), .val (.int i2), .val (.int (3 : Int32)), .unset, .unset] [(.int (7 : Int32)), (.int (i1 >>> ((1 : Int32) &&& 31)))])) _
    refine XS.iand X0.here hx rfl (hb hby at_19) rfl ?_
    show Steps p.tables e below (s₁.setTop (mkF m 20 #[.val (.int i0), .val (.int i1), .val (.int i2), .val (.int (3 : Int32)), .unset, .unset] [(.int ((i1 >>> ((1 : Int32) &&& 31)) &&& (7 : Int32)))])) _
    refine XS.iconst X0.here hx rfl (hb hby at_20) ?_
    show Steps p.tables e below (s₁.setTop (mkF m 21 #[.val (.int i0), .val (.int i1), .val (.int i2), .val (.int (3 : Int32)), .unset, .unset] [(.int (2 : Int32)), (.int ((i1 >>> ((1 : Int32) &&& 31)) &&& (7 : Int32)))])) _
    refine XS.isub X0.here hx rfl (hb hby at_21) rfl ?_
    show Steps p.tables e below (s₁.setTop (mkF m 22 #[.val (.int i0), .val (.int i1), .val (.int i2), .val (.int (3 : Int32)), .unset, .unset] [(.int (((i1 >>> ((1 : Int32) &&& 31)) &&& (7 : Int32)) - (2 : Int32)))])) _
    refine XS.goto X0.here hx rfl (pc0 := 22) (pc' := 26) rfl (hb hby at_22) (by decide) (by decide) ?_
    show Steps p.tables e below (s₁.setTop (mkF m 26 #[.val (.int i0), .val (.int i1), .val (.int i2), .val (.int (3 : Int32)), .unset, .unset] [(.int (((i1 >>> ((1 : Int32) &&& 31)) &&& (7 : Int32)) - (2 : Int32)))])) _
    refine XS.istore X0.here hx rfl (hb hby at_26) rfl (l' := #[.val (.int i0), .val (.int i1), .val (.int i2), .val (.int (3 : Int32)), .val (.int (((i1 >>> ((1 : Int32) &&& 31)) &&& (7 : Int32)) - (2 : Int32))), .unset]) rfl ?_
    show Steps p.tables e below (s₁.setTop (mkF m 28 #[.val (.int i0), .val (.int i1), .val (.int i2), .val (.int (3 : Int32)), .val (.int (((i1 >>> ((1 : Int32) &&& 31)) &&& (7 : Int32)) - (2 : Int32))), .unset] [])) _
    refine XS.iloadN X0.here hx rfl (hb hby at_28) rfl ?_
    show Steps p.tables e below (s₁.setTop (mkF m 29 #[.val (.int i0), .val (.int i1), .val (.int i2), .val (.int (3 : Int32)), .val (.int (((i1 >>> ((1 : Int32) &&& 31)) &&& (7 : Int32)) - (2 : Int32))), .unset] [(.int (3 : Int32))])) _
    refine st1 _ ?_
    show Steps p.tables e below (T1.setTop (mkF m 32 #[.val (.int i0), .val (.int i1), .val (.int i2), .val (.int (3 : Int32)), .val (.int (((i1 >>> ((1 : Int32) &&& 31)) &&& (7 : Int32)) - (2 : Int32))), .unset] [(.ref r6)])) _
    refine XS.astore X1.here hx rfl (hb hby at_32) rfl rfl (l' := #[.val (.int i0), .val (.int i1), .val (.int i2), .val (.int (3 : Int32)), .val (.int (((i1 >>> ((1 : Int32) &&& 31)) &&& (7 : Int32)) - (2 : Int32))), .val (.ref r6)]) rfl ?_
    show Steps p.tables e below (T1.setTop (mkF m 34 #[.val (.int i0), .val (.int i1), .val (.int i2), .val (.int (3 : Int32)), .val (.int (((i1 >>> ((1 : Int32) &&& 31)) &&& (7 : Int32)) - (2 : Int32))), .val (.ref r6)] [])) _
    refine XS.aload X1.here hx rfl (hb hby at_34) rfl rfl ?_
    show Steps p.tables e below (T1.setTop (mkF m 36 #[.val (.int i0), .val (.int i1), .val (.int i2), .val (.int (3 : Int32)), .val (.int (((i1 >>> ((1 : Int32) &&& 31)) &&& (7 : Int32)) - (2 : Int32))), .val (.ref r6)] [(.ref r6)])) _
    refine XS.iload X1.here hx rfl (hb hby at_36) rfl ?_
    show Steps p.tables e below (T1.setTop (mkF m 38 #[.val (.int i0), .val (.int i1), .val (.int i2), .val (.int (3 : Int32)), .val (.int (((i1 >>> ((1 : Int32) &&& 31)) &&& (7 : Int32)) - (2 : Int32))), .val (.ref r6)] [(.int (((i1 >>> ((1 : Int32) &&& 31)) &&& (7 : Int32)) - (2 : Int32))), (.ref r6)])) _
    refine st2.trans ?_
    show Steps p.tables e below (T2.setTop (mkF m 41 #[.val (.int i0), .val (.int i1), .val (.int i2), .val (.int (3 : Int32)), .val (.int (((i1 >>> ((1 : Int32) &&& 31)) &&& (7 : Int32)) - (2 : Int32))), .val (.ref r6)] [(.int (0 : Int32))])) _
    refine XS.iloadN X2.here hx rfl (hb hby at_41) rfl ?_
    show Steps p.tables e below (T2.setTop (mkF m 42 #[.val (.int i0), .val (.int i1), .val (.int i2), .val (.int (3 : Int32)), .val (.int (((i1 >>> ((1 : Int32) &&& 31)) &&& (7 : Int32)) - (2 : Int32))), .val (.ref r6)] [(.int (3 : Int32)), (.int (0 : Int32))])) _
    refine XS.iload X2.here hx rfl (hb hby at_42) rfl ?_
    show Steps p.tables e below (T2.setTop (mkF m 44 #[.val (.int i0), .val (.int i1), .val (.int i2), .val (.int (3 : Int32)), .val (.int (((i1 >>> ((1 : Int32) &&& 31)) &&& (7 : Int32)) - (2 : Int32))), .val (.ref r6)] [(.int (((i1 >>> ((1 : Int32) &&& 31)) &&& (7 : Int32)) - (2 : Int32))), (.int (3 : Int32)), (.int (0 : Int32))])) _
    refine st3 _ ?_
    show Steps p.tables e below (T3.setTop (mkF m 47 #[.val (.int i0), .val (.int i1), .val (.int i2), .val (.int (3 : Int32)), .val (.int (((i1 >>> ((1 : Int32) &&& 31)) &&& (7 : Int32)) - (2 : Int32))), .val (.ref r6)] [(.int (0 : Int32)), (.int (0 : Int32))])) _
    refine XS.icmpNo X3.here hx rfl (hb hby at_47) rfl (teq (by decide : (0 : Int32) = (0 : Int32))).2 ?_
    show Steps p.tables e below (T3.setTop (mkF m 50 #[.val (.int i0), .val (.int i1), .val (.int i2), .val (.int (3 : Int32)), .val (.int (((i1 >>> ((1 : Int32) &&& 31)) &&& (7 : Int32)) - (2 : Int32))), .val (.ref r6)] [])) _
    refine XS.iconst X3.here hx rfl (hb hby at_50) ?_
    show Steps p.tables e below (T3.setTop (mkF m 51 #[.val (.int i0), .val (.int i1), .val (.int i2), .val (.int (3 : Int32)), .val (.int (((i1 >>> ((1 : Int32) &&& 31)) &&& (7 : Int32)) - (2 : Int32))), .val (.ref r6)] [(.int (1 : Int32))])) _
    refine XS.goto X3.here hx rfl (pc0 := 51) (pc' := 55) rfl (hb hby at_51) (by decide) (by decide) ?_
    show Steps p.tables e below (T3.setTop (mkF m 55 #[.val (.int i0), .val (.int i1), .val (.int i2), .val (.int (3 : Int32)), .val (.int (((i1 >>> ((1 : Int32) &&& 31)) &&& (7 : Int32)) - (2 : Int32))), .val (.ref r6)] [(.int (1 : Int32))])) _
    exact retN X3 hx (t := .boolean) Bd.returns (by simp) (hb hby at_55) hr
  · exact ⟨rfl, N3, e3⟩
theorem own_d1_35 : decode method_2_code 35 = .ok (.iload_n 0, 1) := by decide +kernel
theorem own_d1_36 : decode method_2_code 36 = .ok (.iconst 4, 1) := by decide +kernel
theorem own_d1_37 : decode method_2_code 37 = .ok (.if_icmp .ne 7, 3) := by decide +kernel
theorem own_d1_40 : decode method_2_code 40 = .ok (.getstatic 22, 3) := by decide +kernel
theorem own_d1_43 : decode method_2_code 43 = .ok (.areturn, 1) := by decide +kernel
set_option maxRecDepth 65536 in
set_option maxHeartbeats 40000000 in
theorem own_r1_38 (l : Launch) (Z : State) (a0 : Array Value) (hw : ∀ d ∈ tables_1, d.before a0 Z = true) (ws : List Jvm.Cond) (r0 : Addr) (r1 : Addr) (r2 : Addr) (r3 : Addr) (r4 : Addr) (r5 : Addr) (r6 : Addr) (r7 : Addr) (r8 : Addr) (r0_c : Addr) (cl_r0_c : Cell) (r1_c : Addr) (cl_r1_c : Cell) (r2_c : Addr) (cl_r2_c : Cell) (r3_c : Addr) (cl_r3_c : Cell) (r4_c : Addr) (cl_r4_c : Cell) (r5_c : Addr) (cl_r5_c : Cell) (r6_c : Addr) (cl_r6_c : Cell) (r7_c : Addr) (cl_r7_c : Cell) (r8_c : Addr) (cl_r8_c : Cell) (h0 : Heap) (n0 : Nat) (Z0 : n0 ≤ h0.size) (F : own_W Z h0 r0 r1 r2 r3 r4 r5 r6 r7 r8 r0_c cl_r0_c r1_c cl_r1_c r2_c cl_r2_c r3_c cl_r3_c r4_c cl_r4_c r5_c cl_r5_c r6_c cl_r6_c r7_c cl_r7_c r8_c cl_r8_c)   :
    MetFree l (⟨"com/example/urbana/urbana/protocol/CommandTakesPinLaw", "pick", "(I)Lcom/example/urbana/urbana/protocol/Command;"⟩ : MethodName) (head1 (Jvm.Cond.code (⟨"com/example/urbana/urbana/protocol/CommandTakesPinLaw", "pick", "(I)Lcom/example/urbana/urbana/protocol/Command;"⟩ : MethodName) method_2_code 1 (some (.object "com/example/urbana/urbana/protocol/Command")) :: ws) ({ frames := 0, cells := 0, slots := 0, locals := 0 } : Room)) (fun a U => a = #[(.int (4 : Int32))] ∧ Z.Warmed39 U.vm ∧ U.heap = h0) (fun _ _ _ _ _ => True) (fun _ U o U' => ∃ v L, o = .returned v ∧ own_Q (.ref r7) h0 n0 v U'.heap L ∧ FrameEnd U o U' L ({ frames := 0, cells := 0, slots := 0, locals := 0 } : Room).cells ({ frames := 0, cells := 0, slots := 0, locals := 0 } : Room).slots) := by
  obtain ⟨S_r0, E_r0, S_r1, E_r1, S_r2, E_r2, S_r3, E_r3, S_r4, E_r4, S_r5, E_r5, S_r6, E_r6, S_r7, E_r7, S_r8, E_r8, F_r0_counts, Ar_r0_c, F_r1_counts, Ar_r1_c, F_r2_counts, Ar_r2_c, F_r3_counts, Ar_r3_c, F_r4_counts, Ar_r4_c, F_r5_counts, Ar_r5_c, F_r6_counts, Ar_r6_c, F_r7_counts, Ar_r7_c, F_r8_counts, Ar_r8_c, Sz_r0_c, El_r0_c_0, Sz_r1_c, El_r1_c_0, El_r1_c_1, Sz_r2_c, El_r2_c_0, Sz_r3_c, Sz_r4_c, Sz_r5_c, Sz_r6_c, Sz_r7_c, Sz_r8_c⟩ := id F
  refine MetFree.of_bodySF (plainFor_of_name own_pn_CommandTakesPinLaw) hisR ?_
  intro p e s m args below meth c s₁ Bd hml0 hP hK
  obtain ⟨rfl, hZ, hh⟩ := hP
  have hx := Bd.exec
  have hby := Bd.bytes
  have hml : c.maxLocals = 1 := hml0
  have hown : s.vm.findClass "com/example/urbana/urbana/protocol/CommandTakesPinLaw" = some m.cls := findClass_of_methodNamed Bd.named
  have X0 : Stand p l e ({ frames := 0, cells := 0, slots := 0, locals := 0 } : Room) s m #[(.int (4 : Int32))] below meth c s₁ [] 0 0 := Stand.of_body Bd
  have e0 : s₁.heap = h0 := by rw [← hh, Bd.state]; rfl
  have N0 := Fr.nil n0
  have pre0 : ∀ t, Steps p.tables e below (s₁.setTop (mkF m 0 #[.val (.int (4 : Int32))] [])) t → Steps p.tables e below (s₁.setTop (entryFrame m #[(.int (4 : Int32))] 1)) t := fun t k => castTop (own_ef1_I m (4 : Int32)) k
  obtain ⟨T1, X1, e1, st1⟩ := getS2 X0 hx hZ hown (host := "") (Or.inl (hw _ (List.mem_of_getElem? (i := 30) rfl))) Via.refl e0 S_r7 (g := (mkF m 40 #[.val (.int (4 : Int32))] [])) rfl (hb hby own_d1_40)
  obtain ⟨fs, hr, hrun, hended, hW, hsame⟩ := X1.leave (v := some (.ref r7)) (fun h => by rw [Bd.returns] at h; cases h)
  refine ⟨_, _, pre0 _ ?_, hrun, hended, _, _, rfl, ?_, ⟨_, rfl⟩, hW, hsame.mono (by decide) (by decide)⟩
  · show Steps p.tables e below (s₁.setTop (mkF m 0 #[.val (.int (4 : Int32))] [])) _
    refine XS.iloadN X0.here hx rfl (hb hby own_d1_0) rfl ?_
    show Steps p.tables e below (s₁.setTop (mkF m 1 #[.val (.int (4 : Int32))] [(.int (4 : Int32))])) _
    refine XS.ifYes X0.here hx rfl (pc0 := 1) (pc' := 8) rfl (hb hby own_d1_1) rfl ((if0 _ _).trans (feq (by decide : ¬ ((4 : Int32) = (0 : Int32)))).2) (by decide) (by decide) ?_
    show Steps p.tables e below (s₁.setTop (mkF m 8 #[.val (.int (4 : Int32))] [])) _
    refine XS.iloadN X0.here hx rfl (hb hby own_d1_8) rfl ?_
    show Steps p.tables e below (s₁.setTop (mkF m 9 #[.val (.int (4 : Int32))] [(.int (4 : Int32))])) _
    refine XS.iconst X0.here hx rfl (hb hby own_d1_9) ?_
    show Steps p.tables e below (s₁.setTop (mkF m 10 #[.val (.int (4 : Int32))] [(.int (1 : Int32)), (.int (4 : Int32))])) _
    refine XS.icmpYes X0.here hx rfl (pc0 := 10) (pc' := 17) rfl (hb hby own_d1_10) rfl (feq (by decide : ¬ ((4 : Int32) = (1 : Int32)))).2 (by decide) (by decide) ?_
    show Steps p.tables e below (s₁.setTop (mkF m 17 #[.val (.int (4 : Int32))] [])) _
    refine XS.iloadN X0.here hx rfl (hb hby own_d1_17) rfl ?_
    show Steps p.tables e below (s₁.setTop (mkF m 18 #[.val (.int (4 : Int32))] [(.int (4 : Int32))])) _
    refine XS.iconst X0.here hx rfl (hb hby own_d1_18) ?_
    show Steps p.tables e below (s₁.setTop (mkF m 19 #[.val (.int (4 : Int32))] [(.int (2 : Int32)), (.int (4 : Int32))])) _
    refine XS.icmpYes X0.here hx rfl (pc0 := 19) (pc' := 26) rfl (hb hby own_d1_19) rfl (feq (by decide : ¬ ((4 : Int32) = (2 : Int32)))).2 (by decide) (by decide) ?_
    show Steps p.tables e below (s₁.setTop (mkF m 26 #[.val (.int (4 : Int32))] [])) _
    refine XS.iloadN X0.here hx rfl (hb hby own_d1_26) rfl ?_
    show Steps p.tables e below (s₁.setTop (mkF m 27 #[.val (.int (4 : Int32))] [(.int (4 : Int32))])) _
    refine XS.iconst X0.here hx rfl (hb hby own_d1_27) ?_
    show Steps p.tables e below (s₁.setTop (mkF m 28 #[.val (.int (4 : Int32))] [(.int (3 : Int32)), (.int (4 : Int32))])) _
    refine XS.icmpYes X0.here hx rfl (pc0 := 28) (pc' := 35) rfl (hb hby own_d1_28) rfl (feq (by decide : ¬ ((4 : Int32) = (3 : Int32)))).2 (by decide) (by decide) ?_
    show Steps p.tables e below (s₁.setTop (mkF m 35 #[.val (.int (4 : Int32))] [])) _
    refine XS.iloadN X0.here hx rfl (hb hby own_d1_35) rfl ?_
    show Steps p.tables e below (s₁.setTop (mkF m 36 #[.val (.int (4 : Int32))] [(.int (4 : Int32))])) _
    refine XS.iconst X0.here hx rfl (hb hby own_d1_36) ?_
    show Steps p.tables e below (s₁.setTop (mkF m 37 #[.val (.int (4 : Int32))] [(.int (4 : Int32)), (.int (4 : Int32))])) _
    refine XS.icmpNo X0.here hx rfl (hb hby own_d1_37) rfl (teq (by decide : (4 : Int32) = (4 : Int32))).2 ?_
    show Steps p.tables e below (s₁.setTop (mkF m 40 #[.val (.int (4 : Int32))] [])) _
    refine st1 _ ?_
    show Steps p.tables e below (T1.setTop (mkF m 43 #[.val (.int (4 : Int32))] [(.ref r7)])) _
    jvm_step X1.here [X1.here.top, hx, (hb hby own_d1_43), X1.method', Bd.returns, Value.isRef, FieldType.isReference]
    first | (intro acts; rw [hr _ acts rfl rfl rfl]) | rw [hr _ _ rfl rfl rfl]
    exact Steps.refl _
  · exact ⟨rfl, N0, e1⟩
set_option maxRecDepth 65536 in
set_option maxHeartbeats 40000000 in
theorem own_r2_39 (l : Launch) (Z : State) (a0 : Array Value) (hw : ∀ d ∈ tables_1, d.before a0 Z = true) (ws : List Jvm.Cond) (r0 : Addr) (r1 : Addr) (r2 : Addr) (r3 : Addr) (r4 : Addr) (r5 : Addr) (r6 : Addr) (r7 : Addr) (r8 : Addr) (r0_c : Addr) (cl_r0_c : Cell) (r1_c : Addr) (cl_r1_c : Cell) (r2_c : Addr) (cl_r2_c : Cell) (r3_c : Addr) (cl_r3_c : Cell) (r4_c : Addr) (cl_r4_c : Cell) (r5_c : Addr) (cl_r5_c : Cell) (r6_c : Addr) (cl_r6_c : Cell) (r7_c : Addr) (cl_r7_c : Cell) (r8_c : Addr) (cl_r8_c : Cell) (h0 : Heap) (n0 : Nat) (Z0 : n0 ≤ h0.size) (F : own_W Z h0 r0 r1 r2 r3 r4 r5 r6 r7 r8 r0_c cl_r0_c r1_c cl_r1_c r2_c cl_r2_c r3_c cl_r3_c r4_c cl_r4_c r5_c cl_r5_c r6_c cl_r6_c r7_c cl_r7_c r8_c cl_r8_c) (q0 : Int32)  :
    MetFree l (⟨"com/example/urbana/urbana/protocol/Command", "takes", "(I)Z"⟩ : MethodName) (head1 (Jvm.Cond.code (⟨"com/example/urbana/urbana/protocol/Command", "takes", "(I)Z"⟩ : MethodName) prog_2_method_8_code 7 (some .boolean) :: ws) ({ frames := 0, cells := 0, slots := 0, locals := 0 } : Room)) (fun a U => a = #[(.ref r7), (.int q0)] ∧ Z.Warmed39 U.vm ∧ U.heap = h0) (fun _ _ _ _ _ => True) (fun _ U o U' => ∃ v L, o = .returned v ∧ own_Q (.int (0 : Int32)) h0 n0 v U'.heap L ∧ FrameEnd U o U' L ({ frames := 0, cells := 0, slots := 0, locals := 0 } : Room).cells ({ frames := 0, cells := 0, slots := 0, locals := 0 } : Room).slots) := by
  obtain ⟨S_r0, E_r0, S_r1, E_r1, S_r2, E_r2, S_r3, E_r3, S_r4, E_r4, S_r5, E_r5, S_r6, E_r6, S_r7, E_r7, S_r8, E_r8, F_r0_counts, Ar_r0_c, F_r1_counts, Ar_r1_c, F_r2_counts, Ar_r2_c, F_r3_counts, Ar_r3_c, F_r4_counts, Ar_r4_c, F_r5_counts, Ar_r5_c, F_r6_counts, Ar_r6_c, F_r7_counts, Ar_r7_c, F_r8_counts, Ar_r8_c, Sz_r0_c, El_r0_c_0, Sz_r1_c, El_r1_c_0, El_r1_c_1, Sz_r2_c, El_r2_c_0, Sz_r3_c, Sz_r4_c, Sz_r5_c, Sz_r6_c, Sz_r7_c, Sz_r8_c⟩ := id F
  refine MetFree.of_bodySF (plainFor_of_name own_pn_Command) hisR ?_
  intro p e s m args below meth c s₁ Bd hml0 hP hK
  obtain ⟨rfl, hZ, hh⟩ := hP
  have hx := Bd.exec
  have hby := Bd.bytes
  have hml : c.maxLocals = 7 := hml0
  have hown : s.vm.findClass "com/example/urbana/urbana/protocol/Command" = some m.cls := findClass_of_methodNamed Bd.named
  have X0 : Stand p l e ({ frames := 0, cells := 0, slots := 0, locals := 0 } : Room) s m #[(.ref r7), (.int q0)] below meth c s₁ [] 0 0 := Stand.of_body Bd
  have e0 : s₁.heap = h0 := by rw [← hh, Bd.state]; rfl
  have N0 := Fr.nil n0
  have pre0 : ∀ t, Steps p.tables e below (s₁.setTop (mkF m 0 #[.val (.ref r7), .val (.int q0), .unset, .unset, .unset, .unset, .unset] [])) t → Steps p.tables e below (s₁.setTop (entryFrame m #[(.ref r7), (.int q0)] 7)) t := fun t k => castTop (own_ef2_RI m r7 q0) k
  obtain ⟨T1, X1, e1, st1⟩ := getF X0 hx hZ hown (host := "") (Or.inl (hw _ (List.mem_of_getElem? (i := 13) rfl))) Via.refl e0 F_r7_counts (g := (mkF m 3 #[.val (.ref r7), .val (.int q0), .val (.int (0 : Int32)), .unset, .unset, .unset, .unset] [(.ref r7)])) rfl rfl (hb hby own_d2_3)
  obtain ⟨fs, hr, hrun, hended, hW, hsame⟩ := X1.leave (v := some (.int (0 : Int32))) (fun h => by rw [Bd.returns] at h; cases h)
  refine ⟨_, _, pre0 _ ?_, hrun, hended, _, _, rfl, ?_, ⟨_, rfl⟩, hW, hsame.mono (by decide) (by decide)⟩
  · show Steps p.tables e below (s₁.setTop (mkF m 0 #[.val (.ref r7), .val (.int q0), .unset, .unset, .unset, .unset, .unset] [])) _
    refine XS.iconst X0.here hx rfl (hb hby own_d2_0) ?_
    show Steps p.tables e below (s₁.setTop (mkF m 1 #[.val (.ref r7), .val (.int q0), .unset, .unset, .unset, .unset, .unset] [(.int (0 : Int32))])) _
    refine XS.istoreN X0.here hx rfl (hb hby own_d2_1) rfl (l' := #[.val (.ref r7), .val (.int q0), .val (.int (0 : Int32)), .unset, .unset, .unset, .unset]) rfl ?_
    show Steps p.tables e below (s₁.setTop (mkF m 2 #[.val (.ref r7), .val (.int q0), .val (.int (0 : Int32)), .unset, .unset, .unset, .unset] [])) _
    refine XS.aloadN X0.here hx rfl (hb hby own_d2_2) rfl rfl ?_
    show Steps p.tables e below (s₁.setTop (mkF m 3 #[.val (.ref r7), .val (.int q0), .val (.int (0 : Int32)), .unset, .unset, .unset, .unset] [(.ref r7)])) _
    refine st1 _ ?_
    show Steps p.tables e below (T1.setTop (mkF m 6 #[.val (.ref r7), .val (.int q0), .val (.int (0 : Int32)), .unset, .unset, .unset, .unset] [(.ref r7_c)])) _
    refine XS.astoreN X1.here hx rfl (hb hby own_d2_6) rfl rfl (l' := #[.val (.ref r7), .val (.int q0), .val (.int (0 : Int32)), .val (.ref r7_c), .unset, .unset, .unset]) rfl ?_
    show Steps p.tables e below (T1.setTop (mkF m 7 #[.val (.ref r7), .val (.int q0), .val (.int (0 : Int32)), .val (.ref r7_c), .unset, .unset, .unset] [])) _
    refine XS.aloadN X1.here hx rfl (hb hby own_d2_7) rfl rfl ?_
    show Steps p.tables e below (T1.setTop (mkF m 8 #[.val (.ref r7), .val (.int q0), .val (.int (0 : Int32)), .val (.ref r7_c), .unset, .unset, .unset] [(.ref r7_c)])) _
    refine X1.arraylength hx (by rw [e1]; exact Ar_r7_c.1) (State.isArrayOf_alike hZ.alike Ar_r7_c.2.1) (g := (mkF m 8 #[.val (.ref r7), .val (.int q0), .val (.int (0 : Int32)), .val (.ref r7_c), .unset, .unset, .unset] [(.ref r7_c)])) rfl rfl (hb hby own_d2_8) _ ?_
    rw [len_of Sz_r7_c (by decide)]
    show Steps p.tables e below (T1.setTop (mkF m 9 #[.val (.ref r7), .val (.int q0), .val (.int (0 : Int32)), .val (.ref r7_c), .unset, .unset, .unset] [(.int (0 : Int32))])) _
    refine XS.istore X1.here hx rfl (hb hby own_d2_9) rfl (l' := #[.val (.ref r7), .val (.int q0), .val (.int (0 : Int32)), .val (.ref r7_c), .val (.int (0 : Int32)), .unset, .unset]) rfl ?_
    show Steps p.tables e below (T1.setTop (mkF m 11 #[.val (.ref r7), .val (.int q0), .val (.int (0 : Int32)), .val (.ref r7_c), .val (.int (0 : Int32)), .unset, .unset] [])) _
    refine XS.iconst X1.here hx rfl (hb hby own_d2_11) ?_
    show Steps p.tables e below (T1.setTop (mkF m 12 #[.val (.ref r7), .val (.int q0), .val (.int (0 : Int32)), .val (.ref r7_c), .val (.int (0 : Int32)), .unset, .unset] [(.int (0 : Int32))])) _
    refine XS.istore X1.here hx rfl (hb hby own_d2_12) rfl (l' := #[.val (.ref r7), .val (.int q0), .val (.int (0 : Int32)), .val (.ref r7_c), .val (.int (0 : Int32)), .val (.int (0 : Int32)), .unset]) rfl ?_
    show Steps p.tables e below (T1.setTop (mkF m 14 #[.val (.ref r7), .val (.int q0), .val (.int (0 : Int32)), .val (.ref r7_c), .val (.int (0 : Int32)), .val (.int (0 : Int32)), .unset] [])) _
    refine XS.iload X1.here hx rfl (hb hby own_d2_14) rfl ?_
    show Steps p.tables e below (T1.setTop (mkF m 16 #[.val (.ref r7), .val (.int q0), .val (.int (0 : Int32)), .val (.ref r7_c), .val (.int (0 : Int32)), .val (.int (0 : Int32)), .unset] [(.int (0 : Int32))])) _
    refine XS.iload X1.here hx rfl (hb hby own_d2_16) rfl ?_
    show Steps p.tables e below (T1.setTop (mkF m 18 #[.val (.ref r7), .val (.int q0), .val (.int (0 : Int32)), .val (.ref r7_c), .val (.int (0 : Int32)), .val (.int (0 : Int32)), .unset] [(.int (0 : Int32)), (.int (0 : Int32))])) _
    refine XS.icmpYes X1.here hx rfl (pc0 := 18) (pc' := 47) rfl (hb hby own_d2_18) rfl (flt (by decide : ¬ ((0 : Int32) < (0 : Int32)))).2.1 (by decide) (by decide) ?_
    show Steps p.tables e below (T1.setTop (mkF m 47 #[.val (.ref r7), .val (.int q0), .val (.int (0 : Int32)), .val (.ref r7_c), .val (.int (0 : Int32)), .val (.int (0 : Int32)), .unset] [])) _
    refine XS.iloadN X1.here hx rfl (hb hby own_d2_47) rfl ?_
    show Steps p.tables e below (T1.setTop (mkF m 48 #[.val (.ref r7), .val (.int q0), .val (.int (0 : Int32)), .val (.ref r7_c), .val (.int (0 : Int32)), .val (.int (0 : Int32)), .unset] [(.int (0 : Int32))])) _
    exact retN X1 hx (t := .boolean) Bd.returns (by simp) (hb hby own_d2_48) hr
  · exact ⟨rfl, N0, e1⟩
set_option maxRecDepth 65536 in
set_option maxHeartbeats 40000000 in
theorem own_r3_40 (l : Launch) (Z : State) (a0 : Array Value) (hw : ∀ d ∈ tables_1, d.before a0 Z = true) (ws : List Jvm.Cond) (r0 : Addr) (r1 : Addr) (r2 : Addr) (r3 : Addr) (r4 : Addr) (r5 : Addr) (r6 : Addr) (r7 : Addr) (r8 : Addr) (r0_c : Addr) (cl_r0_c : Cell) (r1_c : Addr) (cl_r1_c : Cell) (r2_c : Addr) (cl_r2_c : Cell) (r3_c : Addr) (cl_r3_c : Cell) (r4_c : Addr) (cl_r4_c : Cell) (r5_c : Addr) (cl_r5_c : Cell) (r6_c : Addr) (cl_r6_c : Cell) (r7_c : Addr) (cl_r7_c : Cell) (r8_c : Addr) (cl_r8_c : Cell) (h0 : Heap) (n0 : Nat) (Z0 : n0 ≤ h0.size) (F : own_W Z h0 r0 r1 r2 r3 r4 r5 r6 r7 r8 r0_c cl_r0_c r1_c cl_r1_c r2_c cl_r2_c r3_c cl_r3_c r4_c cl_r4_c r5_c cl_r5_c r6_c cl_r6_c r7_c cl_r7_c r8_c cl_r8_c) (q0 : Int32)  :
    MetFree l (⟨"com/example/urbana/urbana/protocol/CommandTakesPinLaw", "expected", "(II)Z"⟩ : MethodName) (head1 (Jvm.Cond.code (⟨"com/example/urbana/urbana/protocol/CommandTakesPinLaw", "expected", "(II)Z"⟩ : MethodName) method_3_code 2 (some .boolean) :: ws) ({ frames := 0, cells := 0, slots := 0, locals := 0 } : Room)) (fun a U => a = #[(.int (4 : Int32)), (.int q0)] ∧ Z.Warmed39 U.vm ∧ U.heap = h0) (fun _ _ _ _ _ => True) (fun _ U o U' => ∃ v L, o = .returned v ∧ own_Q (.int (0 : Int32)) h0 n0 v U'.heap L ∧ FrameEnd U o U' L ({ frames := 0, cells := 0, slots := 0, locals := 0 } : Room).cells ({ frames := 0, cells := 0, slots := 0, locals := 0 } : Room).slots) := by
  obtain ⟨S_r0, E_r0, S_r1, E_r1, S_r2, E_r2, S_r3, E_r3, S_r4, E_r4, S_r5, E_r5, S_r6, E_r6, S_r7, E_r7, S_r8, E_r8, F_r0_counts, Ar_r0_c, F_r1_counts, Ar_r1_c, F_r2_counts, Ar_r2_c, F_r3_counts, Ar_r3_c, F_r4_counts, Ar_r4_c, F_r5_counts, Ar_r5_c, F_r6_counts, Ar_r6_c, F_r7_counts, Ar_r7_c, F_r8_counts, Ar_r8_c, Sz_r0_c, El_r0_c_0, Sz_r1_c, El_r1_c_0, El_r1_c_1, Sz_r2_c, El_r2_c_0, Sz_r3_c, Sz_r4_c, Sz_r5_c, Sz_r6_c, Sz_r7_c, Sz_r8_c⟩ := id F
  refine MetFree.of_bodySF (plainFor_of_name own_pn_CommandTakesPinLaw) hisR ?_
  intro p e s m args below meth c s₁ Bd hml0 hP hK
  obtain ⟨rfl, hZ, hh⟩ := hP
  have hx := Bd.exec
  have hby := Bd.bytes
  have hml : c.maxLocals = 2 := hml0
  have hown : s.vm.findClass "com/example/urbana/urbana/protocol/CommandTakesPinLaw" = some m.cls := findClass_of_methodNamed Bd.named
  have X0 : Stand p l e ({ frames := 0, cells := 0, slots := 0, locals := 0 } : Room) s m #[(.int (4 : Int32)), (.int q0)] below meth c s₁ [] 0 0 := Stand.of_body Bd
  have e0 : s₁.heap = h0 := by rw [← hh, Bd.state]; rfl
  have N0 := Fr.nil n0
  have pre0 : ∀ t, Steps p.tables e below (s₁.setTop (mkF m 0 #[.val (.int (4 : Int32)), .val (.int q0)] [])) t → Steps p.tables e below (s₁.setTop (entryFrame m #[(.int (4 : Int32)), (.int q0)] 2)) t := fun t k => castTop (own_ef3_II m (4 : Int32) q0) k
  obtain ⟨fs, hr, hrun, hended, hW, hsame⟩ := X0.leave (v := some (.int (0 : Int32))) (fun h => by rw [Bd.returns] at h; cases h)
  refine ⟨_, _, pre0 _ ?_, hrun, hended, _, _, rfl, ?_, ⟨_, rfl⟩, hW, hsame.mono (by decide) (by decide)⟩
  · show Steps p.tables e below (s₁.setTop (mkF m 0 #[.val (.int (4 : Int32)), .val (.int q0)] [])) _
    refine XS.iloadN X0.here hx rfl (hb hby own_d3_0) rfl ?_
    show Steps p.tables e below (s₁.setTop (mkF m 1 #[.val (.int (4 : Int32)), .val (.int q0)] [(.int (4 : Int32))])) _
    refine XS.ifYes X0.here hx rfl (pc0 := 1) (pc' := 15) rfl (hb hby own_d3_1) rfl ((if0 _ _).trans (feq (by decide : ¬ ((4 : Int32) = (0 : Int32)))).2) (by decide) (by decide) ?_
    show Steps p.tables e below (s₁.setTop (mkF m 15 #[.val (.int (4 : Int32)), .val (.int q0)] [])) _
    refine XS.iloadN X0.here hx rfl (hb hby own_d3_15) rfl ?_
    show Steps p.tables e below (s₁.setTop (mkF m 16 #[.val (.int (4 : Int32)), .val (.int q0)] [(.int (4 : Int32))])) _
    refine XS.iconst X0.here hx rfl (hb hby own_d3_16) ?_
    show Steps p.tables e below (s₁.setTop (mkF m 17 #[.val (.int (4 : Int32)), .val (.int q0)] [(.int (1 : Int32)), (.int (4 : Int32))])) _
    refine XS.icmpYes X0.here hx rfl (pc0 := 17) (pc' := 35) rfl (hb hby own_d3_17) rfl (feq (by decide : ¬ ((4 : Int32) = (1 : Int32)))).2 (by decide) (by decide) ?_
    show Steps p.tables e below (s₁.setTop (mkF m 35 #[.val (.int (4 : Int32)), .val (.int q0)] [])) _
    refine XS.iloadN X0.here hx rfl (hb hby own_d3_35) rfl ?_
    show Steps p.tables e below (s₁.setTop (mkF m 36 #[.val (.int (4 : Int32)), .val (.int q0)] [(.int (4 : Int32))])) _
    refine XS.iconst X0.here hx rfl (hb hby own_d3_36) ?_
    show Steps p.tables e below (s₁.setTop (mkF m 37 #[.val (.int (4 : Int32)), .val (.int q0)] [(.int (2 : Int32)), (.int (4 : Int32))])) _
    refine XS.icmpYes X0.here hx rfl (pc0 := 37) (pc' := 51) rfl (hb hby own_d3_37) rfl (feq (by decide : ¬ ((4 : Int32) = (2 : Int32)))).2 (by decide) (by decide) ?_
    show Steps p.tables e below (s₁.setTop (mkF m 51 #[.val (.int (4 : Int32)), .val (.int q0)] [])) _
    refine XS.iconst X0.here hx rfl (hb hby own_d3_51) ?_
    show Steps p.tables e below (s₁.setTop (mkF m 52 #[.val (.int (4 : Int32)), .val (.int q0)] [(.int (0 : Int32))])) _
    exact retN X0 hx (t := .boolean) Bd.returns (by simp) (hb hby own_d3_52) hr
  · exact ⟨rfl, N0, e0⟩
set_option maxRecDepth 65536 in
set_option maxHeartbeats 40000000 in
theorem own_r0_k4m0c0 (l : Launch) (Z : State) (a0 : Array Value) (hw : ∀ d ∈ tables_1, d.before a0 Z = true) (ws : List Jvm.Cond) (r0 : Addr) (r1 : Addr) (r2 : Addr) (r3 : Addr) (r4 : Addr) (r5 : Addr) (r6 : Addr) (r7 : Addr) (r8 : Addr) (r0_c : Addr) (cl_r0_c : Cell) (r1_c : Addr) (cl_r1_c : Cell) (r2_c : Addr) (cl_r2_c : Cell) (r3_c : Addr) (cl_r3_c : Cell) (r4_c : Addr) (cl_r4_c : Cell) (r5_c : Addr) (cl_r5_c : Cell) (r6_c : Addr) (cl_r6_c : Cell) (r7_c : Addr) (cl_r7_c : Cell) (r8_c : Addr) (cl_r8_c : Cell) (h0 : Heap) (n0 : Nat) (Z0 : n0 ≤ h0.size) (F : own_W Z h0 r0 r1 r2 r3 r4 r5 r6 r7 r8 r0_c cl_r0_c r1_c cl_r1_c r2_c cl_r2_c r3_c cl_r3_c r4_c cl_r4_c r5_c cl_r5_c r6_c cl_r6_c r7_c cl_r7_c r8_c cl_r8_c) (i0 : Int32) (i1 : Int32) (i2 : Int32) (hk : ((i0 &&& (2147483647 : Int32)) % (9 : Int32)) = (4 : Int32)) (hm : (i1 &&& (1 : Int32)) = (0 : Int32)) :
    MetFree l x (head1 (Jvm.Cond.code x code maxLocals ret :: ws) room_1) (fun a U => a = #[(.int i0), (.int i1), (.int i2)] ∧ Z.Warmed39 U.vm ∧ U.heap = h0) (fun _ _ _ _ _ => True) (fun _ U o U' => ∃ v L, o = .returned v ∧ own_Q (.int (1 : Int32)) h0 n0 v U'.heap L ∧ FrameEnd U o U' L room_1.cells room_1.slots) := by
  obtain ⟨S_r0, E_r0, S_r1, E_r1, S_r2, E_r2, S_r3, E_r3, S_r4, E_r4, S_r5, E_r5, S_r6, E_r6, S_r7, E_r7, S_r8, E_r8, F_r0_counts, Ar_r0_c, F_r1_counts, Ar_r1_c, F_r2_counts, Ar_r2_c, F_r3_counts, Ar_r3_c, F_r4_counts, Ar_r4_c, F_r5_counts, Ar_r5_c, F_r6_counts, Ar_r6_c, F_r7_counts, Ar_r7_c, F_r8_counts, Ar_r8_c, Sz_r0_c, El_r0_c_0, Sz_r1_c, El_r1_c_0, El_r1_c_1, Sz_r2_c, El_r2_c_0, Sz_r3_c, Sz_r4_c, Sz_r5_c, Sz_r6_c, Sz_r7_c, Sz_r8_c⟩ := id F
  refine MetFree.of_bodySF (plainFor_of_name own_pn_CommandTakesPinLaw) hisR ?_
  intro p e s m args below meth c s₁ Bd hml0 hP hK
  obtain ⟨rfl, hZ, hh⟩ := hP
  have hx := Bd.exec
  have hby := Bd.bytes
  have hml : c.maxLocals = 6 := hml0
  have hown : s.vm.findClass "com/example/urbana/urbana/protocol/CommandTakesPinLaw" = some m.cls := findClass_of_methodNamed Bd.named
  have X0 : Stand p l e room_1 s m #[(.int i0), (.int i1), (.int i2)] below meth c s₁ [] 0 0 := Stand.of_body Bd
  have e0 : s₁.heap = h0 := by rw [← hh, Bd.state]; rfl
  have N0 := Fr.nil n0
  have pre0 : ∀ t, Steps p.tables e below (s₁.setTop (mkF m 0 #[.val (.int i0), .val (.int i1), .val (.int i2), .unset, .unset, .unset] [])) t → Steps p.tables e below (s₁.setTop (entryFrame m #[(.int i0), (.int i1), (.int i2)] maxLocals)) t := fun t k => castTop (own_ef0_III m i0 i1 i2) k
  obtain ⟨_, _, ⟨T1, L1, k1, n1⟩, -, X1, ⟨Lc1, hQ1, l1, y1, z1⟩, st1⟩ := Jvm.LawKit.callS X0 hx (y := (⟨"com/example/urbana/urbana/protocol/CommandTakesPinLaw", "pick", "(I)Lcom/example/urbana/urbana/protocol/Command;"⟩ : MethodName)) hown (mvT hZ (hw _ (List.mem_of_getElem? (i := 1) rfl))) (mvT hZ (hw _ (List.mem_of_getElem? (i := 2) rfl))) (mvT hZ (hw _ (List.mem_of_getElem? (i := 3) rfl))) (mvT hZ (hw _ (List.mem_of_getElem? (i := 4) rfl))) (by decide) (backOf (W := 0) (own_r1_38 l Z a0 hw [] r0 r1 r2 r3 r4 r5 r6 r7 r8 r0_c cl_r0_c r1_c cl_r1_c r2_c cl_r2_c r3_c cl_r3_c r4_c cl_r4_c r5_c cl_r5_c r6_c cl_r6_c r7_c cl_r7_c r8_c cl_r8_c h0 n0 Z0 F ) hZ (hw _ (List.mem_of_getElem? (i := 4) rfl)) (hw _ (List.mem_of_getElem? (i := 3) rfl)) (by decide) (by decide)) (g := (mkF m 29 #[.val (.int i0), .val (.int i1), .val (.int i2), .val (.int (4 : Int32)), .val (.int i2), .unset] [(.int (4 : Int32))])) rfl (by rw [hml]; rfl) (argsL := [(.int (4 : Int32))]) (rest := []) (lenOf own_pd0 rfl) rfl (by show 2 * 0 + _ ≤ _; exact Nat.le_of_eq rfl) (hb hby at_29) (fun _ _ => ⟨rfl, e0, (by decide : 0 + 0 ≤ _), (by decide : 0 + 0 ≤ _)⟩)
  dsimp only [Pt.U, Pt.locs, Pt.cells, Pt.slots] at X1 l1 y1 z1 st1 hQ1
  subst l1 y1 z1
  obtain ⟨rfl, N1q, e1⟩ := hQ1
  have N1 := Fr.app N0 N1q
  obtain ⟨cq2, kq2, q2a, q2b, q2c⟩ := isOf hZ e1 E_r7
  obtain ⟨_, _, ⟨T2, L2, k2, n2⟩, -, X2, ⟨Lc2, hQ2, l2, y2, z2⟩, st2⟩ := X1.virtualBack hx (y := (⟨"com/example/urbana/urbana/protocol/Command", "takes", "(I)Z"⟩ : MethodName)) (z := (⟨"com/example/urbana/urbana/protocol/Command", "takes", "(I)Z"⟩ : MethodName)) hown (mvT hZ (hw _ (List.mem_of_getElem? (i := 8) rfl))) (mvT hZ (hw _ (List.mem_of_getElem? (i := 9) rfl))) (notFace_of_selects (args := #[]) (mvT hZ (hw _ (List.mem_of_getElem? (i := 11) rfl)))) (mvT hZ (hw _ (List.mem_of_getElem? (i := 11) rfl))) (mvT hZ (hw _ (List.mem_of_getElem? (i := 10) rfl))) (by decide) (backOf (W := 0) (own_r2_39 l Z a0 hw [] r0 r1 r2 r3 r4 r5 r6 r7 r8 r0_c cl_r0_c r1_c cl_r1_c r2_c cl_r2_c r3_c cl_r3_c r4_c cl_r4_c r5_c cl_r5_c r6_c cl_r6_c r7_c cl_r7_c r8_c cl_r8_c h0 n0 Z0 F i2) hZ (hw _ (List.mem_of_getElem? (i := 12) rfl)) (hw _ (List.mem_of_getElem? (i := 6) rfl)) (by decide) (by decide)) q2a q2c (g := (mkF m 38 #[.val (.int i0), .val (.int i1), .val (.int i2), .val (.int (4 : Int32)), .val (.int i2), .val (.ref r7)] [(.int i2), (.ref r7)])) rfl (by rw [hml]; rfl) (Steps.refl _) (argsL := [(.int i2)]) (rest := []) (lenOf own_pd1 rfl) rfl (by show 2 * 0 + _ ≤ _; exact Nat.le_of_eq rfl) (hb hby at_38) (fun _ _ => ⟨rfl, e1, (by decide : 0 + 0 ≤ _), (by decide : 0 + 0 ≤ _)⟩)
  dsimp only [Pt.U, Pt.locs, Pt.cells, Pt.slots] at X2 l2 y2 z2 st2 hQ2
  subst l2 y2 z2
  obtain ⟨rfl, N2q, e2⟩ := hQ2
  have N2 := Fr.app N1 N2q
  obtain ⟨_, _, ⟨T3, L3, k3, n3⟩, -, X3, ⟨Lc3, hQ3, l3, y3, z3⟩, st3⟩ := Jvm.LawKit.callS X2 hx (y := (⟨"com/example/urbana/urbana/protocol/CommandTakesPinLaw", "expected", "(II)Z"⟩ : MethodName)) hown (mvT hZ (hw _ (List.mem_of_getElem? (i := 15) rfl))) (mvT hZ (hw _ (List.mem_of_getElem? (i := 16) rfl))) (mvT hZ (hw _ (List.mem_of_getElem? (i := 3) rfl))) (mvT hZ (hw _ (List.mem_of_getElem? (i := 17) rfl))) (by decide) (backOf (W := 1) (own_r3_40 l Z a0 hw [] r0 r1 r2 r3 r4 r5 r6 r7 r8 r0_c cl_r0_c r1_c cl_r1_c r2_c cl_r2_c r3_c cl_r3_c r4_c cl_r4_c r5_c cl_r5_c r6_c cl_r6_c r7_c cl_r7_c r8_c cl_r8_c h0 n0 Z0 F i2) hZ (hw _ (List.mem_of_getElem? (i := 17) rfl)) (hw _ (List.mem_of_getElem? (i := 3) rfl)) (by decide) (by decide)) (g := (mkF m 44 #[.val (.int i0), .val (.int i1), .val (.int i2), .val (.int (4 : Int32)), .val (.int i2), .val (.ref r7)] [(.int i2), (.int (4 : Int32)), (.int (0 : Int32))])) rfl (by rw [hml]; rfl) (argsL := [(.int (4 : Int32)), (.int i2)]) (rest := [(.int (0 : Int32))]) (lenOf own_pd2 rfl) rfl (by show 2 * 0 + _ ≤ _; exact Nat.le_of_eq rfl) (hb hby at_44) (fun _ _ => ⟨rfl, e2, (by decide : 0 + 0 ≤ _), (by decide : 0 + 0 ≤ _)⟩)
  dsimp only [Pt.U, Pt.locs, Pt.cells, Pt.slots] at X3 l3 y3 z3 st3 hQ3
  subst l3 y3 z3
  obtain ⟨rfl, N3q, e3⟩ := hQ3
  have N3 := Fr.app N2 N3q
  obtain ⟨fs, hr, hrun, hended, hW, hsame⟩ := X3.leave (v := some (.int (1 : Int32))) (fun h => by rw [Bd.returns] at h; cases h)
  refine ⟨_, _, pre0 _ ?_, hrun, hended, _, _, rfl, ?_, ⟨_, rfl⟩, hW, hsame.mono (by decide) (by decide)⟩
  · show Steps p.tables e below (s₁.setTop (mkF m 0 #[.val (.int i0), .val (.int i1), .val (.int i2), .unset, .unset, .unset] [])) _
    refine XS.iloadN X0.here hx rfl (hb hby at_0) rfl ?_
    show Steps p.tables e below (s₁.setTop (mkF m 1 #[.val (.int i0), .val (.int i1), .val (.int i2), .unset, .unset, .unset] [(.int i0)])) _
    refine X0.ldcInt hx hown (mvT hZ (hw _ (List.mem_of_getElem? (i := 0) rfl))) (g := (mkF m 1 #[.val (.int i0), .val (.int i1), .val (.int i2), .unset, .unset, .unset] [(.int i0)])) rfl (hb hby at_1) _ ?_
    show Steps p.tables e below (s₁.setTop (mkF m 3 #[.val (.int i0), .val (.int i1), .val (.int i2), .unset, .unset, .unset] [(.int (2147483647 : Int32)), (.int i0)])) _
    refine XS.iand X0.here hx rfl (hb hby at_3) rfl ?_
    show Steps p.tables e below (s₁.setTop (mkF m 4 #[.val (.int i0), .val (.int i1), .val (.int i2), .unset, .unset, .unset] [(.int (i0 &&& (2147483647 : Int32)))])) _
    refine XS.bipush X0.here hx rfl (hb hby at_4) ?_
    show Steps p.tables e below (s₁.setTop (mkF m 6 #[.val (.int i0), .val (.int i1), .val (.int i2), .unset, .unset, .unset] [(.int (9 : Int32)), (.int (i0 &&& (2147483647 : Int32)))])) _
    refine iremM (g := (mkF m 6 #[.val (.int i0), .val (.int i1), .val (.int i2), .unset, .unset, .unset] [(.int (9 : Int32)), (.int (i0 &&& (2147483647 : Int32)))])) X0 hx rfl (hb hby at_6) rfl (by decide) ?_
    show Steps p.tables e below (s₁.setTop (mkF m 7 #[.val (.int i0), .val (.int i1), .val (.int i2), .unset, .unset, .unset] [(.int ((i0 &&& (2147483647 : Int32)) % (9 : Int32)))])) _
    rw [hk]
    show Steps p.tables e below (s₁.setTop (mkF m 7 #[.val (.int i0), .val (.int i1), .val (.int i2), .unset, .unset, .unset] [(.int (4 : Int32))])) _
    refine XS.istoreN X0.here hx rfl (hb hby at_7) rfl (l' := #[.val (.int i0), .val (.int i1), .val (.int i2), .val (.int (4 : Int32)), .unset, .unset]) rfl ?_
    show Steps p.tables e below (s₁.setTop (mkF m 8 #[.val (.int i0), .val (.int i1), .val (.int i2), .val (.int (4 : Int32)), .unset, .unset] [])) _
    refine XS.iloadN X0.here hx rfl (hb hby at_8) rfl ?_
    show Steps p.tables e below (s₁.setTop (mkF m 9 #[.val (.int i0), .val (.int i1), .val (.int i2), .val (.int (4 : Int32)), .unset, .unset] [(.int i1)])) _
    refine XS.iconst X0.here hx rfl (hb hby at_9) ?_
    show Steps p.tables e below (s₁.setTop (mkF m 10 #[.val (.int i0), .val (.int i1), .val (.int i2), .val (.int (4 : Int32)), .unset, .unset] [(.int (1 : Int32)), (.int i1)])) _
    refine XS.iand X0.here hx rfl (hb hby at_10) rfl ?_
    show Steps p.tables e below (s₁.setTop (mkF m 11 #[.val (.int i0), .val (.int i1), .val (.int i2), .val (.int (4 : Int32)), .unset, .unset] [(.int (i1 &&& (1 : Int32)))])) _
    rw [hm]
    show Steps p.tables e below (s₁.setTop (mkF m 11 #[.val (.int i0), .val (.int i1), .val (.int i2), .val (.int (4 : Int32)), .unset, .unset] [(.int (0 : Int32))])) _
    refine XS.ifYes X0.here hx rfl (pc0 := 11) (pc' := 25) rfl (hb hby at_11) rfl ((if0 _ _).trans (teq (by decide : (0 : Int32) = (0 : Int32))).1) (by decide) (by decide) ?_
    show Steps p.tables e below (s₁.setTop (mkF m 25 #[.val (.int i0), .val (.int i1), .val (.int i2), .val (.int (4 : Int32)), .unset, .unset] [])) _
    refine XS.iloadN X0.here hx rfl (hb hby at_25) rfl ?_
    show Steps p.tables e below (s₁.setTop (mkF m 26 #[.val (.int i0), .val (.int i1), .val (.int i2), .val (.int (4 : Int32)), .unset, .unset] [(.int i2)])) _
    refine XS.istore X0.here hx rfl (hb hby at_26) rfl (l' := #[.val (.int i0), .val (.int i1), .val (.int i2), .val (.int (4 : Int32)), .val (.int i2), .unset]) rfl ?_
    show Steps p.tables e below (s₁.setTop (mkF m 28 #[.val (.int i0), .val (.int i1), .val (.int i2), .val (.int (4 : Int32)), .val (.int i2), .unset] [])) _
    refine XS.iloadN X0.here hx rfl (hb hby at_28) rfl ?_
    show Steps p.tables e below (s₁.setTop (mkF m 29 #[.val (.int i0), .val (.int i1), .val (.int i2), .val (.int (4 : Int32)), .val (.int i2), .unset] [(.int (4 : Int32))])) _
    refine st1 _ ?_
    show Steps p.tables e below (T1.setTop (mkF m 32 #[.val (.int i0), .val (.int i1), .val (.int i2), .val (.int (4 : Int32)), .val (.int i2), .unset] [(.ref r7)])) _
    refine XS.astore X1.here hx rfl (hb hby at_32) rfl rfl (l' := #[.val (.int i0), .val (.int i1), .val (.int i2), .val (.int (4 : Int32)), .val (.int i2), .val (.ref r7)]) rfl ?_
    show Steps p.tables e below (T1.setTop (mkF m 34 #[.val (.int i0), .val (.int i1), .val (.int i2), .val (.int (4 : Int32)), .val (.int i2), .val (.ref r7)] [])) _
    refine XS.aload X1.here hx rfl (hb hby at_34) rfl rfl ?_
    show Steps p.tables e below (T1.setTop (mkF m 36 #[.val (.int i0), .val (.int i1), .val (.int i2), .val (.int (4 : Int32)), .val (.int i2), .val (.ref r7)] [(.ref r7)])) _
    refine XS.iload X1.here hx rfl (hb hby at_36) rfl ?_
    show Steps p.tables e below (T1.setTop (mkF m 38 #[.val (.int i0), .val (.int i1), .val (.int i2), .val (.int (4 : Int32)), .val (.int i2), .val (.ref r7)] [(.int i2), (.ref r7)])) _
    refine st2.trans ?_
    show Steps p.tables e below (T2.setTop (mkF m 41 #[.val (.int i0), .val (.int i1), .val (.int i2), .val (.int (4 : Int32)), .val (.int i2), .val (.ref r7)] [(.int (0 : Int32))])) _
    refine XS.iloadN X2.here hx rfl (hb hby at_41) rfl ?_
    show Steps p.tables e below (T2.setTop (mkF m 42 #[.val (.int i0), .val (.int i1), .val (.int i2), .val (.int (4 : Int32)), .val (.int i2), .val (.ref r7)] [(.int (4 : Int32)), (.int (0 : Int32))])) _
    refine XS.iload X2.here hx rfl (hb hby at_42) rfl ?_
    show Steps p.tables e below (T2.setTop (mkF m 44 #[.val (.int i0), .val (.int i1), .val (.int i2), .val (.int (4 : Int32)), .val (.int i2), .val (.ref r7)] [(.int i2), (.int (4 : Int32)), (.int (0 : Int32))])) _
    refine st3 _ ?_
    show Steps p.tables e below (T3.setTop (mkF m 47 #[.val (.int i0), .val (.int i1), .val (.int i2), .val (.int (4 : Int32)), .val (.int i2), .val (.ref r7)] [(.int (0 : Int32)), (.int (0 : Int32))])) _
    refine XS.icmpNo X3.here hx rfl (hb hby at_47) rfl (teq (by decide : (0 : Int32) = (0 : Int32))).2 ?_
    show Steps p.tables e below (T3.setTop (mkF m 50 #[.val (.int i0), .val (.int i1), .val (.int i2), .val (.int (4 : Int32)), .val (.int i2), .val (.ref r7)] [])) _
    refine XS.iconst X3.here hx rfl (hb hby at_50) ?_
    show Steps p.tables e below (T3.setTop (mkF m 51 #[.val (.int i0), .val (.int i1), .val (.int i2), .val (.int (4 : Int32)), .val (.int i2), .val (.ref r7)] [(.int (1 : Int32))])) _
    refine XS.goto X3.here hx rfl (pc0 := 51) (pc' := 55) rfl (hb hby at_51) (by decide) (by decide) ?_
    show Steps p.tables e below (T3.setTop (mkF m 55 #[.val (.int i0), .val (.int i1), .val (.int i2), .val (.int (4 : Int32)), .val (.int i2), .val (.ref r7)] [(.int (1 : Int32))])) _
    exact retN X3 hx (t := .boolean) Bd.returns (by simp) (hb hby at_55) hr
  · exact ⟨rfl, N3, e3⟩
set_option maxRecDepth 65536 in
set_option maxHeartbeats 40000000 in
theorem own_r0_k4m1c0 (l : Launch) (Z : State) (a0 : Array Value) (hw : ∀ d ∈ tables_1, d.before a0 Z = true) (ws : List Jvm.Cond) (r0 : Addr) (r1 : Addr) (r2 : Addr) (r3 : Addr) (r4 : Addr) (r5 : Addr) (r6 : Addr) (r7 : Addr) (r8 : Addr) (r0_c : Addr) (cl_r0_c : Cell) (r1_c : Addr) (cl_r1_c : Cell) (r2_c : Addr) (cl_r2_c : Cell) (r3_c : Addr) (cl_r3_c : Cell) (r4_c : Addr) (cl_r4_c : Cell) (r5_c : Addr) (cl_r5_c : Cell) (r6_c : Addr) (cl_r6_c : Cell) (r7_c : Addr) (cl_r7_c : Cell) (r8_c : Addr) (cl_r8_c : Cell) (h0 : Heap) (n0 : Nat) (Z0 : n0 ≤ h0.size) (F : own_W Z h0 r0 r1 r2 r3 r4 r5 r6 r7 r8 r0_c cl_r0_c r1_c cl_r1_c r2_c cl_r2_c r3_c cl_r3_c r4_c cl_r4_c r5_c cl_r5_c r6_c cl_r6_c r7_c cl_r7_c r8_c cl_r8_c) (i0 : Int32) (i1 : Int32) (i2 : Int32) (hk : ((i0 &&& (2147483647 : Int32)) % (9 : Int32)) = (4 : Int32)) (hm : (i1 &&& (1 : Int32)) = (1 : Int32)) :
    MetFree l x (head1 (Jvm.Cond.code x code maxLocals ret :: ws) room_1) (fun a U => a = #[(.int i0), (.int i1), (.int i2)] ∧ Z.Warmed39 U.vm ∧ U.heap = h0) (fun _ _ _ _ _ => True) (fun _ U o U' => ∃ v L, o = .returned v ∧ own_Q (.int (1 : Int32)) h0 n0 v U'.heap L ∧ FrameEnd U o U' L room_1.cells room_1.slots) := by
  obtain ⟨S_r0, E_r0, S_r1, E_r1, S_r2, E_r2, S_r3, E_r3, S_r4, E_r4, S_r5, E_r5, S_r6, E_r6, S_r7, E_r7, S_r8, E_r8, F_r0_counts, Ar_r0_c, F_r1_counts, Ar_r1_c, F_r2_counts, Ar_r2_c, F_r3_counts, Ar_r3_c, F_r4_counts, Ar_r4_c, F_r5_counts, Ar_r5_c, F_r6_counts, Ar_r6_c, F_r7_counts, Ar_r7_c, F_r8_counts, Ar_r8_c, Sz_r0_c, El_r0_c_0, Sz_r1_c, El_r1_c_0, El_r1_c_1, Sz_r2_c, El_r2_c_0, Sz_r3_c, Sz_r4_c, Sz_r5_c, Sz_r6_c, Sz_r7_c, Sz_r8_c⟩ := id F
  refine MetFree.of_bodySF (plainFor_of_name own_pn_CommandTakesPinLaw) hisR ?_
  intro p e s m args below meth c s₁ Bd hml0 hP hK
  obtain ⟨rfl, hZ, hh⟩ := hP
  have hx := Bd.exec
  have hby := Bd.bytes
  have hml : c.maxLocals = 6 := hml0
  have hown : s.vm.findClass "com/example/urbana/urbana/protocol/CommandTakesPinLaw" = some m.cls := findClass_of_methodNamed Bd.named
  have X0 : Stand p l e room_1 s m #[(.int i0), (.int i1), (.int i2)] below meth c s₁ [] 0 0 := Stand.of_body Bd
  have e0 : s₁.heap = h0 := by rw [← hh, Bd.state]; rfl
  have N0 := Fr.nil n0
  have pre0 : ∀ t, Steps p.tables e below (s₁.setTop (mkF m 0 #[.val (.int i0), .val (.int i1), .val (.int i2), .unset, .unset, .unset] [])) t → Steps p.tables e below (s₁.setTop (entryFrame m #[(.int i0), (.int i1), (.int i2)] maxLocals)) t := fun t k => castTop (own_ef0_III m i0 i1 i2) k
  obtain ⟨_, _, ⟨T1, L1, k1, n1⟩, -, X1, ⟨Lc1, hQ1, l1, y1, z1⟩, st1⟩ := Jvm.LawKit.callS X0 hx (y := (⟨"com/example/urbana/urbana/protocol/CommandTakesPinLaw", "pick", "(I)Lcom/example/urbana/urbana/protocol/Command;"⟩ : MethodName)) hown (mvT hZ (hw _ (List.mem_of_getElem? (i := 1) rfl))) (mvT hZ (hw _ (List.mem_of_getElem? (i := 2) rfl))) (mvT hZ (hw _ (List.mem_of_getElem? (i := 3) rfl))) (mvT hZ (hw _ (List.mem_of_getElem? (i := 4) rfl))) (by decide) (backOf (W := 0) (own_r1_38 l Z a0 hw [] r0 r1 r2 r3 r4 r5 r6 r7 r8 r0_c cl_r0_c r1_c cl_r1_c r2_c cl_r2_c r3_c cl_r3_c r4_c cl_r4_c r5_c cl_r5_c r6_c cl_r6_c r7_c cl_r7_c r8_c cl_r8_c h0 n0 Z0 F ) hZ (hw _ (List.mem_of_getElem? (i := 4) rfl)) (hw _ (List.mem_of_getElem? (i := 3) rfl)) (by decide) (by decide)) (g := (mkF m 29 #[.val (.int i0), .val (.int i1), .val (.int i2), .val (.int (4 : Int32)), .val (.int (((i1 >>> ((1 : Int32) &&& 31)) &&& (7 : Int32)) - (2 : Int32))), .unset] [(.int (4 : Int32))])) rfl (by rw [hml]; rfl) (argsL := [(.int (4 : Int32))]) (rest := []) (lenOf own_pd0 rfl) rfl (by show 2 * 0 + _ ≤ _; exact Nat.le_of_eq rfl) (hb hby at_29) (fun _ _ => ⟨rfl, e0, (by decide : 0 + 0 ≤ _), (by decide : 0 + 0 ≤ _)⟩)
  dsimp only [Pt.U, Pt.locs, Pt.cells, Pt.slots] at X1 l1 y1 z1 st1 hQ1
  subst l1 y1 z1
  obtain ⟨rfl, N1q, e1⟩ := hQ1
  have N1 := Fr.app N0 N1q
  obtain ⟨cq2, kq2, q2a, q2b, q2c⟩ := isOf hZ e1 E_r7
  obtain ⟨_, _, ⟨T2, L2, k2, n2⟩, -, X2, ⟨Lc2, hQ2, l2, y2, z2⟩, st2⟩ := X1.virtualBack hx (y := (⟨"com/example/urbana/urbana/protocol/Command", "takes", "(I)Z"⟩ : MethodName)) (z := (⟨"com/example/urbana/urbana/protocol/Command", "takes", "(I)Z"⟩ : MethodName)) hown (mvT hZ (hw _ (List.mem_of_getElem? (i := 8) rfl))) (mvT hZ (hw _ (List.mem_of_getElem? (i := 9) rfl))) (notFace_of_selects (args := #[]) (mvT hZ (hw _ (List.mem_of_getElem? (i := 11) rfl)))) (mvT hZ (hw _ (List.mem_of_getElem? (i := 11) rfl))) (mvT hZ (hw _ (List.mem_of_getElem? (i := 10) rfl))) (by decide) (backOf (W := 0) (own_r2_39 l Z a0 hw [] r0 r1 r2 r3 r4 r5 r6 r7 r8 r0_c cl_r0_c r1_c cl_r1_c r2_c cl_r2_c r3_c cl_r3_c r4_c cl_r4_c r5_c cl_r5_c r6_c cl_r6_c r7_c cl_r7_c r8_c cl_r8_c h0 n0 Z0 F (((i1 >>> ((1 : Int32) &&& 31)) &&& (7 : Int32)) - (2 : Int32))) hZ (hw _ (List.mem_of_getElem? (i := 12) rfl)) (hw _ (List.mem_of_getElem? (i := 6) rfl)) (by decide) (by decide)) q2a q2c (g := (mkF m 38 #[.val (.int i0), .val (.int i1), .val (.int i2), .val (.int (4 : Int32)), .val (.int (((i1 >>> ((1 : Int32) &&& 31)) &&& (7 : Int32)) - (2 : Int32))), .val (.ref r7)] [(.int (((i1 >>> ((1 : Int32) &&& 31)) &&& (7 : Int32)) - (2 : Int32))), (.ref r7)])) rfl (by rw [hml]; rfl) (Steps.refl _) (argsL := [(.int (((i1 >>> ((1 : Int32) &&& 31)) &&& (7 : Int32)) - (2 : Int32)))]) (rest := []) (lenOf own_pd1 rfl) rfl (by show 2 * 0 + _ ≤ _; exact Nat.le_of_eq rfl) (hb hby at_38) (fun _ _ => ⟨rfl, e1, (by decide : 0 + 0 ≤ _), (by decide : 0 + 0 ≤ _)⟩)
  dsimp only [Pt.U, Pt.locs, Pt.cells, Pt.slots] at X2 l2 y2 z2 st2 hQ2
  subst l2 y2 z2
  obtain ⟨rfl, N2q, e2⟩ := hQ2
  have N2 := Fr.app N1 N2q
  obtain ⟨_, _, ⟨T3, L3, k3, n3⟩, -, X3, ⟨Lc3, hQ3, l3, y3, z3⟩, st3⟩ := Jvm.LawKit.callS X2 hx (y := (⟨"com/example/urbana/urbana/protocol/CommandTakesPinLaw", "expected", "(II)Z"⟩ : MethodName)) hown (mvT hZ (hw _ (List.mem_of_getElem? (i := 15) rfl))) (mvT hZ (hw _ (List.mem_of_getElem? (i := 16) rfl))) (mvT hZ (hw _ (List.mem_of_getElem? (i := 3) rfl))) (mvT hZ (hw _ (List.mem_of_getElem? (i := 17) rfl))) (by decide) (backOf (W := 1) (own_r3_40 l Z a0 hw [] r0 r1 r2 r3 r4 r5 r6 r7 r8 r0_c cl_r0_c r1_c cl_r1_c r2_c cl_r2_c r3_c cl_r3_c r4_c cl_r4_c r5_c cl_r5_c r6_c cl_r6_c r7_c cl_r7_c r8_c cl_r8_c h0 n0 Z0 F (((i1 >>> ((1 : Int32) &&& 31)) &&& (7 : Int32)) - (2 : Int32))) hZ (hw _ (List.mem_of_getElem? (i := 17) rfl)) (hw _ (List.mem_of_getElem? (i := 3) rfl)) (by decide) (by decide)) (g := (mkF m 44 #[.val (.int i0), .val (.int i1), .val (.int i2), .val (.int (4 : Int32)), .val (.int (((i1 >>> ((1 : Int32) &&& 31)) &&& (7 : Int32)) - (2 : Int32))), .val (.ref r7)] [(.int (((i1 >>> ((1 : Int32) &&& 31)) &&& (7 : Int32)) - (2 : Int32))), (.int (4 : Int32)), (.int (0 : Int32))])) rfl (by rw [hml]; rfl) (argsL := [(.int (4 : Int32)), (.int (((i1 >>> ((1 : Int32) &&& 31)) &&& (7 : Int32)) - (2 : Int32)))]) (rest := [(.int (0 : Int32))]) (lenOf own_pd2 rfl) rfl (by show 2 * 0 + _ ≤ _; exact Nat.le_of_eq rfl) (hb hby at_44) (fun _ _ => ⟨rfl, e2, (by decide : 0 + 0 ≤ _), (by decide : 0 + 0 ≤ _)⟩)
  dsimp only [Pt.U, Pt.locs, Pt.cells, Pt.slots] at X3 l3 y3 z3 st3 hQ3
  subst l3 y3 z3
  obtain ⟨rfl, N3q, e3⟩ := hQ3
  have N3 := Fr.app N2 N3q
  obtain ⟨fs, hr, hrun, hended, hW, hsame⟩ := X3.leave (v := some (.int (1 : Int32))) (fun h => by rw [Bd.returns] at h; cases h)
  refine ⟨_, _, pre0 _ ?_, hrun, hended, _, _, rfl, ?_, ⟨_, rfl⟩, hW, hsame.mono (by decide) (by decide)⟩
  · show Steps p.tables e below (s₁.setTop (mkF m 0 #[.val (.int i0), .val (.int i1), .val (.int i2), .unset, .unset, .unset] [])) _
    refine XS.iloadN X0.here hx rfl (hb hby at_0) rfl ?_
    show Steps p.tables e below (s₁.setTop (mkF m 1 #[.val (.int i0), .val (.int i1), .val (.int i2), .unset, .unset, .unset] [(.int i0)])) _
    refine X0.ldcInt hx hown (mvT hZ (hw _ (List.mem_of_getElem? (i := 0) rfl))) (g := (mkF m 1 #[.val (.int i0), .val (.int i1), .val (.int i2), .unset, .unset, .unset] [(.int i0)])) rfl (hb hby at_1) _ ?_
    show Steps p.tables e below (s₁.setTop (mkF m 3 #[.val (.int i0), .val (.int i1), .val (.int i2), .unset, .unset, .unset] [(.int (2147483647 : Int32)), (.int i0)])) _
    refine XS.iand X0.here hx rfl (hb hby at_3) rfl ?_
    show Steps p.tables e below (s₁.setTop (mkF m 4 #[.val (.int i0), .val (.int i1), .val (.int i2), .unset, .unset, .unset] [(.int (i0 &&& (2147483647 : Int32)))])) _
    refine XS.bipush X0.here hx rfl (hb hby at_4) ?_
    show Steps p.tables e below (s₁.setTop (mkF m 6 #[.val (.int i0), .val (.int i1), .val (.int i2), .unset, .unset, .unset] [(.int (9 : Int32)), (.int (i0 &&& (2147483647 : Int32)))])) _
    refine iremM (g := (mkF m 6 #[.val (.int i0), .val (.int i1), .val (.int i2), .unset, .unset, .unset] [(.int (9 : Int32)), (.int (i0 &&& (2147483647 : Int32)))])) X0 hx rfl (hb hby at_6) rfl (by decide) ?_
    show Steps p.tables e below (s₁.setTop (mkF m 7 #[.val (.int i0), .val (.int i1), .val (.int i2), .unset, .unset, .unset] [(.int ((i0 &&& (2147483647 : Int32)) % (9 : Int32)))])) _
    rw [hk]
    show Steps p.tables e below (s₁.setTop (mkF m 7 #[.val (.int i0), .val (.int i1), .val (.int i2), .unset, .unset, .unset] [(.int (4 : Int32))])) _
    refine XS.istoreN X0.here hx rfl (hb hby at_7) rfl (l' := #[.val (.int i0), .val (.int i1), .val (.int i2), .val (.int (4 : Int32)), .unset, .unset]) rfl ?_
    show Steps p.tables e below (s₁.setTop (mkF m 8 #[.val (.int i0), .val (.int i1), .val (.int i2), .val (.int (4 : Int32)), .unset, .unset] [])) _
    refine XS.iloadN X0.here hx rfl (hb hby at_8) rfl ?_
    show Steps p.tables e below (s₁.setTop (mkF m 9 #[.val (.int i0), .val (.int i1), .val (.int i2), .val (.int (4 : Int32)), .unset, .unset] [(.int i1)])) _
    refine XS.iconst X0.here hx rfl (hb hby at_9) ?_
    show Steps p.tables e below (s₁.setTop (mkF m 10 #[.val (.int i0), .val (.int i1), .val (.int i2), .val (.int (4 : Int32)), .unset, .unset] [(.int (1 : Int32)), (.int i1)])) _
    refine XS.iand X0.here hx rfl (hb hby at_10) rfl ?_
    show Steps p.tables e below (s₁.setTop (mkF m 11 #[.val (.int i0), .val (.int i1), .val (.int i2), .val (.int (4 : Int32)), .unset, .unset] [(.int (i1 &&& (1 : Int32)))])) _
    rw [hm]
    show Steps p.tables e below (s₁.setTop (mkF m 11 #[.val (.int i0), .val (.int i1), .val (.int i2), .val (.int (4 : Int32)), .unset, .unset] [(.int (1 : Int32))])) _
    refine XS.ifNo X0.here hx rfl (hb hby at_11) rfl ((if0 _ _).trans (feq (by decide : ¬ ((1 : Int32) = (0 : Int32)))).1) ?_
    show Steps p.tables e below (s₁.setTop (mkF m 14 #[.val (.int i0), .val (.int i1), .val (.int i2), .val (.int (4 : Int32)), .unset, .unset] [])) _
    refine XS.iloadN X0.here hx rfl (hb hby at_14) rfl ?_
    show Steps p.tables e below (s₁.setTop (mkF m 15 #[.val (.int i0), .val (.int i1), .val (.int i2), .val (.int (4 : Int32)), .unset, .unset] [(.int i1)])) _
    refine XS.iconst X0.here hx rfl (hb hby at_15) ?_
    show Steps p.tables e below (s₁.setTop (mkF m 16 #[.val (.int i0), .val (.int i1), .val (.int i2), .val (.int (4 : Int32)), .unset, .unset] [(.int (1 : Int32)), (.int i1)])) _
    refine XS.ishr X0.here hx rfl (hb hby at_16) rfl ?_
    show Steps p.tables e below (s₁.setTop (mkF m 17 #[.val (.int i0), .val (.int i1), .val (.int i2), .val (.int (4 : Int32)), .unset, .unset] [(.int (i1 >>> ((1 : Int32) &&& 31)))])) _
    refine XS.bipush X0.here hx rfl (hb hby at_17) ?_
    show Steps p.tables e below (s₁.setTop (mkF m 19 #[.val (.int i0), .val (.int i1), .val (.int i2), .val (.int (4 : Int32)), .unset, .unset] [(.int (7 : Int32)), (.int (i1 >>> ((1 : Int32) &&& 31)))])) _
    refine XS.iand X0.here hx rfl (hb hby at_19) rfl ?_
    show Steps p.tables e below (s₁.setTop (mkF m 20 #[.val (.int i0), .val (.int i1), .val (.int i2), .val (.int (4 : Int32)), .unset, .unset] [(.int ((i1 >>> ((1 : Int32) &&& 31)) &&& (7 : Int32)))])) _
    refine XS.iconst X0.here hx rfl (hb hby at_20) ?_
    show Steps p.tables e below (s₁.setTop (mkF m 21 #[.val (.int i0), .val (.int i1), .val (.int i2), .val (.int (4 : Int32)), .unset, .unset] [(.int (2 : Int32)), (.int ((i1 >>> ((1 : Int32) &&& 31)) &&& (7 : Int32)))])) _
    refine XS.isub X0.here hx rfl (hb hby at_21) rfl ?_
    show Steps p.tables e below (s₁.setTop (mkF m 22 #[.val (.int i0), .val (.int i1), .val (.int i2), .val (.int (4 : Int32)), .unset, .unset] [(.int (((i1 >>> ((1 : Int32) &&& 31)) &&& (7 : Int32)) - (2 : Int32)))])) _
    refine XS.goto X0.here hx rfl (pc0 := 22) (pc' := 26) rfl (hb hby at_22) (by decide) (by decide) ?_
    show Steps p.tables e below (s₁.setTop (mkF m 26 #[.val (.int i0), .val (.int i1), .val (.int i2), .val (.int (4 : Int32)), .unset, .unset] [(.int (((i1 >>> ((1 : Int32) &&& 31)) &&& (7 : Int32)) - (2 : Int32)))])) _
    refine XS.istore X0.here hx rfl (hb hby at_26) rfl (l' := #[.val (.int i0), .val (.int i1), .val (.int i2), .val (.int (4 : Int32)), .val (.int (((i1 >>> ((1 : Int32) &&& 31)) &&& (7 : Int32)) - (2 : Int32))), .unset]) rfl ?_
    show Steps p.tables e below (s₁.setTop (mkF m 28 #[.val (.int i0), .val (.int i1), .val (.int i2), .val (.int (4 : Int32)), .val (.int (((i1 >>> ((1 : Int32) &&& 31)) &&& (7 : Int32)) - (2 : Int32))), .unset] [])) _
    refine XS.iloadN X0.here hx rfl (hb hby at_28) rfl ?_
    show Steps p.tables e below (s₁.setTop (mkF m 29 #[.val (.int i0), .val (.int i1), .val (.int i2), .val (.int (4 : Int32)), .val (.int (((i1 >>> ((1 : Int32) &&& 31)) &&& (7 : Int32)) - (2 : Int32))), .unset] [(.int (4 : Int32))])) _
    refine st1 _ ?_
    show Steps p.tables e below (T1.setTop (mkF m 32 #[.val (.int i0), .val (.int i1), .val (.int i2), .val (.int (4 : Int32)), .val (.int (((i1 >>> ((1 : Int32) &&& 31)) &&& (7 : Int32)) - (2 : Int32))), .unset] [(.ref r7)])) _
    refine XS.astore X1.here hx rfl (hb hby at_32) rfl rfl (l' := #[.val (.int i0), .val (.int i1), .val (.int i2), .val (.int (4 : Int32)), .val (.int (((i1 >>> ((1 : Int32) &&& 31)) &&& (7 : Int32)) - (2 : Int32))), .val (.ref r7)]) rfl ?_
    show Steps p.tables e below (T1.setTop (mkF m 34 #[.val (.int i0), .val (.int i1), .val (.int i2), .val (.int (4 : Int32)), .val (.int (((i1 >>> ((1 : Int32) &&& 31)) &&& (7 : Int32)) - (2 : Int32))), .val (.ref r7)] [])) _
    refine XS.aload X1.here hx rfl (hb hby at_34) rfl rfl ?_
    show Steps p.tables e below (T1.setTop (mkF m 36 #[.val (.int i0), .val (.int i1), .val (.int i2), .val (.int (4 : Int32)), .val (.int (((i1 >>> ((1 : Int32) &&& 31)) &&& (7 : Int32)) - (2 : Int32))), .val (.ref r7)] [(.ref r7)])) _
    refine XS.iload X1.here hx rfl (hb hby at_36) rfl ?_
    show Steps p.tables e below (T1.setTop (mkF m 38 #[.val (.int i0), .val (.int i1), .val (.int i2), .val (.int (4 : Int32)), .val (.int (((i1 >>> ((1 : Int32) &&& 31)) &&& (7 : Int32)) - (2 : Int32))), .val (.ref r7)] [(.int (((i1 >>> ((1 : Int32) &&& 31)) &&& (7 : Int32)) - (2 : Int32))), (.ref r7)])) _
    refine st2.trans ?_
    show Steps p.tables e below (T2.setTop (mkF m 41 #[.val (.int i0), .val (.int i1), .val (.int i2), .val (.int (4 : Int32)), .val (.int (((i1 >>> ((1 : Int32) &&& 31)) &&& (7 : Int32)) - (2 : Int32))), .val (.ref r7)] [(.int (0 : Int32))])) _
    refine XS.iloadN X2.here hx rfl (hb hby at_41) rfl ?_
    show Steps p.tables e below (T2.setTop (mkF m 42 #[.val (.int i0), .val (.int i1), .val (.int i2), .val (.int (4 : Int32)), .val (.int (((i1 >>> ((1 : Int32) &&& 31)) &&& (7 : Int32)) - (2 : Int32))), .val (.ref r7)] [(.int (4 : Int32)), (.int (0 : Int32))])) _
    refine XS.iload X2.here hx rfl (hb hby at_42) rfl ?_
    show Steps p.tables e below (T2.setTop (mkF m 44 #[.val (.int i0), .val (.int i1), .val (.int i2), .val (.int (4 : Int32)), .val (.int (((i1 >>> ((1 : Int32) &&& 31)) &&& (7 : Int32)) - (2 : Int32))), .val (.ref r7)] [(.int (((i1 >>> ((1 : Int32) &&& 31)) &&& (7 : Int32)) - (2 : Int32))), (.int (4 : Int32)), (.int (0 : Int32))])) _
    refine st3 _ ?_
    show Steps p.tables e below (T3.setTop (mkF m 47 #[.val (.int i0), .val (.int i1), .val (.int i2), .val (.int (4 : Int32)), .val (.int (((i1 >>> ((1 : Int32) &&& 31)) &&& (7 : Int32)) - (2 : Int32))), .val (.ref r7)] [(.int (0 : Int32)), (.int (0 : Int32))])) _
    refine XS.icmpNo X3.here hx rfl (hb hby at_47) rfl (teq (by decide : (0 : Int32) = (0 : Int32))).2 ?_
    show Steps p.tables e below (T3.setTop (mkF m 50 #[.val (.int i0), .val (.int i1), .val (.int i2), .val (.int (4 : Int32)), .val (.int (((i1 >>> ((1 : Int32) &&& 31)) &&& (7 : Int32)) - (2 : Int32))), .val (.ref r7)] [])) _
    refine XS.iconst X3.here hx rfl (hb hby at_50) ?_
    show Steps p.tables e below (T3.setTop (mkF m 51 #[.val (.int i0), .val (.int i1), .val (.int i2), .val (.int (4 : Int32)), .val (.int (((i1 >>> ((1 : Int32) &&& 31)) &&& (7 : Int32)) - (2 : Int32))), .val (.ref r7)] [(.int (1 : Int32))])) _
    refine XS.goto X3.here hx rfl (pc0 := 51) (pc' := 55) rfl (hb hby at_51) (by decide) (by decide) ?_
    show Steps p.tables e below (T3.setTop (mkF m 55 #[.val (.int i0), .val (.int i1), .val (.int i2), .val (.int (4 : Int32)), .val (.int (((i1 >>> ((1 : Int32) &&& 31)) &&& (7 : Int32)) - (2 : Int32))), .val (.ref r7)] [(.int (1 : Int32))])) _
    exact retN X3 hx (t := .boolean) Bd.returns (by simp) (hb hby at_55) hr
  · exact ⟨rfl, N3, e3⟩
theorem own_d1_44 : decode method_2_code 44 = .ok (.iload_n 0, 1) := by decide +kernel
theorem own_d1_45 : decode method_2_code 45 = .ok (.iconst 5, 1) := by decide +kernel
theorem own_d1_46 : decode method_2_code 46 = .ok (.if_icmp .ne 7, 3) := by decide +kernel
theorem own_d1_49 : decode method_2_code 49 = .ok (.getstatic 25, 3) := by decide +kernel
theorem own_d1_52 : decode method_2_code 52 = .ok (.areturn, 1) := by decide +kernel
set_option maxRecDepth 65536 in
set_option maxHeartbeats 40000000 in
theorem own_r1_43 (l : Launch) (Z : State) (a0 : Array Value) (hw : ∀ d ∈ tables_1, d.before a0 Z = true) (ws : List Jvm.Cond) (r0 : Addr) (r1 : Addr) (r2 : Addr) (r3 : Addr) (r4 : Addr) (r5 : Addr) (r6 : Addr) (r7 : Addr) (r8 : Addr) (r0_c : Addr) (cl_r0_c : Cell) (r1_c : Addr) (cl_r1_c : Cell) (r2_c : Addr) (cl_r2_c : Cell) (r3_c : Addr) (cl_r3_c : Cell) (r4_c : Addr) (cl_r4_c : Cell) (r5_c : Addr) (cl_r5_c : Cell) (r6_c : Addr) (cl_r6_c : Cell) (r7_c : Addr) (cl_r7_c : Cell) (r8_c : Addr) (cl_r8_c : Cell) (h0 : Heap) (n0 : Nat) (Z0 : n0 ≤ h0.size) (F : own_W Z h0 r0 r1 r2 r3 r4 r5 r6 r7 r8 r0_c cl_r0_c r1_c cl_r1_c r2_c cl_r2_c r3_c cl_r3_c r4_c cl_r4_c r5_c cl_r5_c r6_c cl_r6_c r7_c cl_r7_c r8_c cl_r8_c)   :
    MetFree l (⟨"com/example/urbana/urbana/protocol/CommandTakesPinLaw", "pick", "(I)Lcom/example/urbana/urbana/protocol/Command;"⟩ : MethodName) (head1 (Jvm.Cond.code (⟨"com/example/urbana/urbana/protocol/CommandTakesPinLaw", "pick", "(I)Lcom/example/urbana/urbana/protocol/Command;"⟩ : MethodName) method_2_code 1 (some (.object "com/example/urbana/urbana/protocol/Command")) :: ws) ({ frames := 0, cells := 0, slots := 0, locals := 0 } : Room)) (fun a U => a = #[(.int (5 : Int32))] ∧ Z.Warmed39 U.vm ∧ U.heap = h0) (fun _ _ _ _ _ => True) (fun _ U o U' => ∃ v L, o = .returned v ∧ own_Q (.ref r8) h0 n0 v U'.heap L ∧ FrameEnd U o U' L ({ frames := 0, cells := 0, slots := 0, locals := 0 } : Room).cells ({ frames := 0, cells := 0, slots := 0, locals := 0 } : Room).slots) := by
  obtain ⟨S_r0, E_r0, S_r1, E_r1, S_r2, E_r2, S_r3, E_r3, S_r4, E_r4, S_r5, E_r5, S_r6, E_r6, S_r7, E_r7, S_r8, E_r8, F_r0_counts, Ar_r0_c, F_r1_counts, Ar_r1_c, F_r2_counts, Ar_r2_c, F_r3_counts, Ar_r3_c, F_r4_counts, Ar_r4_c, F_r5_counts, Ar_r5_c, F_r6_counts, Ar_r6_c, F_r7_counts, Ar_r7_c, F_r8_counts, Ar_r8_c, Sz_r0_c, El_r0_c_0, Sz_r1_c, El_r1_c_0, El_r1_c_1, Sz_r2_c, El_r2_c_0, Sz_r3_c, Sz_r4_c, Sz_r5_c, Sz_r6_c, Sz_r7_c, Sz_r8_c⟩ := id F
  refine MetFree.of_bodySF (plainFor_of_name own_pn_CommandTakesPinLaw) hisR ?_
  intro p e s m args below meth c s₁ Bd hml0 hP hK
  obtain ⟨rfl, hZ, hh⟩ := hP
  have hx := Bd.exec
  have hby := Bd.bytes
  have hml : c.maxLocals = 1 := hml0
  have hown : s.vm.findClass "com/example/urbana/urbana/protocol/CommandTakesPinLaw" = some m.cls := findClass_of_methodNamed Bd.named
  have X0 : Stand p l e ({ frames := 0, cells := 0, slots := 0, locals := 0 } : Room) s m #[(.int (5 : Int32))] below meth c s₁ [] 0 0 := Stand.of_body Bd
  have e0 : s₁.heap = h0 := by rw [← hh, Bd.state]; rfl
  have N0 := Fr.nil n0
  have pre0 : ∀ t, Steps p.tables e below (s₁.setTop (mkF m 0 #[.val (.int (5 : Int32))] [])) t → Steps p.tables e below (s₁.setTop (entryFrame m #[(.int (5 : Int32))] 1)) t := fun t k => castTop (own_ef1_I m (5 : Int32)) k
  obtain ⟨T1, X1, e1, st1⟩ := getS2 X0 hx hZ hown (host := "") (Or.inl (hw _ (List.mem_of_getElem? (i := 32) rfl))) Via.refl e0 S_r8 (g := (mkF m 49 #[.val (.int (5 : Int32))] [])) rfl (hb hby own_d1_49)
  obtain ⟨fs, hr, hrun, hended, hW, hsame⟩ := X1.leave (v := some (.ref r8)) (fun h => by rw [Bd.returns] at h; cases h)
  refine ⟨_, _, pre0 _ ?_, hrun, hended, _, _, rfl, ?_, ⟨_, rfl⟩, hW, hsame.mono (by decide) (by decide)⟩
  · show Steps p.tables e below (s₁.setTop (mkF m 0 #[.val (.int (5 : Int32))] [])) _
    refine XS.iloadN X0.here hx rfl (hb hby own_d1_0) rfl ?_
    show Steps p.tables e below (s₁.setTop (mkF m 1 #[.val (.int (5 : Int32))] [(.int (5 : Int32))])) _
    refine XS.ifYes X0.here hx rfl (pc0 := 1) (pc' := 8) rfl (hb hby own_d1_1) rfl ((if0 _ _).trans (feq (by decide : ¬ ((5 : Int32) = (0 : Int32)))).2) (by decide) (by decide) ?_
    show Steps p.tables e below (s₁.setTop (mkF m 8 #[.val (.int (5 : Int32))] [])) _
    refine XS.iloadN X0.here hx rfl (hb hby own_d1_8) rfl ?_
    show Steps p.tables e below (s₁.setTop (mkF m 9 #[.val (.int (5 : Int32))] [(.int (5 : Int32))])) _
    refine XS.iconst X0.here hx rfl (hb hby own_d1_9) ?_
    show Steps p.tables e below (s₁.setTop (mkF m 10 #[.val (.int (5 : Int32))] [(.int (1 : Int32)), (.int (5 : Int32))])) _
    refine XS.icmpYes X0.here hx rfl (pc0 := 10) (pc' := 17) rfl (hb hby own_d1_10) rfl (feq (by decide : ¬ ((5 : Int32) = (1 : Int32)))).2 (by decide) (by decide) ?_
    show Steps p.tables e below (s₁.setTop (mkF m 17 #[.val (.int (5 : Int32))] [])) _
    refine XS.iloadN X0.here hx rfl (hb hby own_d1_17) rfl ?_
    show Steps p.tables e below (s₁.setTop (mkF m 18 #[.val (.int (5 : Int32))] [(.int (5 : Int32))])) _
    refine XS.iconst X0.here hx rfl (hb hby own_d1_18) ?_
    show Steps p.tables e below (s₁.setTop (mkF m 19 #[.val (.int (5 : Int32))] [(.int (2 : Int32)), (.int (5 : Int32))])) _
    refine XS.icmpYes X0.here hx rfl (pc0 := 19) (pc' := 26) rfl (hb hby own_d1_19) rfl (feq (by decide : ¬ ((5 : Int32) = (2 : Int32)))).2 (by decide) (by decide) ?_
    show Steps p.tables e below (s₁.setTop (mkF m 26 #[.val (.int (5 : Int32))] [])) _
    refine XS.iloadN X0.here hx rfl (hb hby own_d1_26) rfl ?_
    show Steps p.tables e below (s₁.setTop (mkF m 27 #[.val (.int (5 : Int32))] [(.int (5 : Int32))])) _
    refine XS.iconst X0.here hx rfl (hb hby own_d1_27) ?_
    show Steps p.tables e below (s₁.setTop (mkF m 28 #[.val (.int (5 : Int32))] [(.int (3 : Int32)), (.int (5 : Int32))])) _
    refine XS.icmpYes X0.here hx rfl (pc0 := 28) (pc' := 35) rfl (hb hby own_d1_28) rfl (feq (by decide : ¬ ((5 : Int32) = (3 : Int32)))).2 (by decide) (by decide) ?_
    show Steps p.tables e below (s₁.setTop (mkF m 35 #[.val (.int (5 : Int32))] [])) _
    refine XS.iloadN X0.here hx rfl (hb hby own_d1_35) rfl ?_
    show Steps p.tables e below (s₁.setTop (mkF m 36 #[.val (.int (5 : Int32))] [(.int (5 : Int32))])) _
    refine XS.iconst X0.here hx rfl (hb hby own_d1_36) ?_
    show Steps p.tables e below (s₁.setTop (mkF m 37 #[.val (.int (5 : Int32))] [(.int (4 : Int32)), (.int (5 : Int32))])) _
    refine XS.icmpYes X0.here hx rfl (pc0 := 37) (pc' := 44) rfl (hb hby own_d1_37) rfl (feq (by decide : ¬ ((5 : Int32) = (4 : Int32)))).2 (by decide) (by decide) ?_
    show Steps p.tables e below (s₁.setTop (mkF m 44 #[.val (.int (5 : Int32))] [])) _
    refine XS.iloadN X0.here hx rfl (hb hby own_d1_44) rfl ?_
    show Steps p.tables e below (s₁.setTop (mkF m 45 #[.val (.int (5 : Int32))] [(.int (5 : Int32))])) _
    refine XS.iconst X0.here hx rfl (hb hby own_d1_45) ?_
    show Steps p.tables e below (s₁.setTop (mkF m 46 #[.val (.int (5 : Int32))] [(.int (5 : Int32)), (.int (5 : Int32))])) _
    refine XS.icmpNo X0.here hx rfl (hb hby own_d1_46) rfl (teq (by decide : (5 : Int32) = (5 : Int32))).2 ?_
    show Steps p.tables e below (s₁.setTop (mkF m 49 #[.val (.int (5 : Int32))] [])) _
    refine st1 _ ?_
    show Steps p.tables e below (T1.setTop (mkF m 52 #[.val (.int (5 : Int32))] [(.ref r8)])) _
    jvm_step X1.here [X1.here.top, hx, (hb hby own_d1_52), X1.method', Bd.returns, Value.isRef, FieldType.isReference]
    first | (intro acts; rw [hr _ acts rfl rfl rfl]) | rw [hr _ _ rfl rfl rfl]
    exact Steps.refl _
  · exact ⟨rfl, N0, e1⟩
set_option maxRecDepth 65536 in
set_option maxHeartbeats 40000000 in
theorem own_r2_44 (l : Launch) (Z : State) (a0 : Array Value) (hw : ∀ d ∈ tables_1, d.before a0 Z = true) (ws : List Jvm.Cond) (r0 : Addr) (r1 : Addr) (r2 : Addr) (r3 : Addr) (r4 : Addr) (r5 : Addr) (r6 : Addr) (r7 : Addr) (r8 : Addr) (r0_c : Addr) (cl_r0_c : Cell) (r1_c : Addr) (cl_r1_c : Cell) (r2_c : Addr) (cl_r2_c : Cell) (r3_c : Addr) (cl_r3_c : Cell) (r4_c : Addr) (cl_r4_c : Cell) (r5_c : Addr) (cl_r5_c : Cell) (r6_c : Addr) (cl_r6_c : Cell) (r7_c : Addr) (cl_r7_c : Cell) (r8_c : Addr) (cl_r8_c : Cell) (h0 : Heap) (n0 : Nat) (Z0 : n0 ≤ h0.size) (F : own_W Z h0 r0 r1 r2 r3 r4 r5 r6 r7 r8 r0_c cl_r0_c r1_c cl_r1_c r2_c cl_r2_c r3_c cl_r3_c r4_c cl_r4_c r5_c cl_r5_c r6_c cl_r6_c r7_c cl_r7_c r8_c cl_r8_c) (q0 : Int32)  :
    MetFree l (⟨"com/example/urbana/urbana/protocol/Command", "takes", "(I)Z"⟩ : MethodName) (head1 (Jvm.Cond.code (⟨"com/example/urbana/urbana/protocol/Command", "takes", "(I)Z"⟩ : MethodName) prog_2_method_8_code 7 (some .boolean) :: ws) ({ frames := 0, cells := 0, slots := 0, locals := 0 } : Room)) (fun a U => a = #[(.ref r8), (.int q0)] ∧ Z.Warmed39 U.vm ∧ U.heap = h0) (fun _ _ _ _ _ => True) (fun _ U o U' => ∃ v L, o = .returned v ∧ own_Q (.int (0 : Int32)) h0 n0 v U'.heap L ∧ FrameEnd U o U' L ({ frames := 0, cells := 0, slots := 0, locals := 0 } : Room).cells ({ frames := 0, cells := 0, slots := 0, locals := 0 } : Room).slots) := by
  obtain ⟨S_r0, E_r0, S_r1, E_r1, S_r2, E_r2, S_r3, E_r3, S_r4, E_r4, S_r5, E_r5, S_r6, E_r6, S_r7, E_r7, S_r8, E_r8, F_r0_counts, Ar_r0_c, F_r1_counts, Ar_r1_c, F_r2_counts, Ar_r2_c, F_r3_counts, Ar_r3_c, F_r4_counts, Ar_r4_c, F_r5_counts, Ar_r5_c, F_r6_counts, Ar_r6_c, F_r7_counts, Ar_r7_c, F_r8_counts, Ar_r8_c, Sz_r0_c, El_r0_c_0, Sz_r1_c, El_r1_c_0, El_r1_c_1, Sz_r2_c, El_r2_c_0, Sz_r3_c, Sz_r4_c, Sz_r5_c, Sz_r6_c, Sz_r7_c, Sz_r8_c⟩ := id F
  refine MetFree.of_bodySF (plainFor_of_name own_pn_Command) hisR ?_
  intro p e s m args below meth c s₁ Bd hml0 hP hK
  obtain ⟨rfl, hZ, hh⟩ := hP
  have hx := Bd.exec
  have hby := Bd.bytes
  have hml : c.maxLocals = 7 := hml0
  have hown : s.vm.findClass "com/example/urbana/urbana/protocol/Command" = some m.cls := findClass_of_methodNamed Bd.named
  have X0 : Stand p l e ({ frames := 0, cells := 0, slots := 0, locals := 0 } : Room) s m #[(.ref r8), (.int q0)] below meth c s₁ [] 0 0 := Stand.of_body Bd
  have e0 : s₁.heap = h0 := by rw [← hh, Bd.state]; rfl
  have N0 := Fr.nil n0
  have pre0 : ∀ t, Steps p.tables e below (s₁.setTop (mkF m 0 #[.val (.ref r8), .val (.int q0), .unset, .unset, .unset, .unset, .unset] [])) t → Steps p.tables e below (s₁.setTop (entryFrame m #[(.ref r8), (.int q0)] 7)) t := fun t k => castTop (own_ef2_RI m r8 q0) k
  obtain ⟨T1, X1, e1, st1⟩ := getF X0 hx hZ hown (host := "") (Or.inl (hw _ (List.mem_of_getElem? (i := 13) rfl))) Via.refl e0 F_r8_counts (g := (mkF m 3 #[.val (.ref r8), .val (.int q0), .val (.int (0 : Int32)), .unset, .unset, .unset, .unset] [(.ref r8)])) rfl rfl (hb hby own_d2_3)
  obtain ⟨fs, hr, hrun, hended, hW, hsame⟩ := X1.leave (v := some (.int (0 : Int32))) (fun h => by rw [Bd.returns] at h; cases h)
  refine ⟨_, _, pre0 _ ?_, hrun, hended, _, _, rfl, ?_, ⟨_, rfl⟩, hW, hsame.mono (by decide) (by decide)⟩
  · show Steps p.tables e below (s₁.setTop (mkF m 0 #[.val (.ref r8), .val (.int q0), .unset, .unset, .unset, .unset, .unset] [])) _
    refine XS.iconst X0.here hx rfl (hb hby own_d2_0) ?_
    show Steps p.tables e below (s₁.setTop (mkF m 1 #[.val (.ref r8), .val (.int q0), .unset, .unset, .unset, .unset, .unset] [(.int (0 : Int32))])) _
    refine XS.istoreN X0.here hx rfl (hb hby own_d2_1) rfl (l' := #[.val (.ref r8), .val (.int q0), .val (.int (0 : Int32)), .unset, .unset, .unset, .unset]) rfl ?_
    show Steps p.tables e below (s₁.setTop (mkF m 2 #[.val (.ref r8), .val (.int q0), .val (.int (0 : Int32)), .unset, .unset, .unset, .unset] [])) _
    refine XS.aloadN X0.here hx rfl (hb hby own_d2_2) rfl rfl ?_
    show Steps p.tables e below (s₁.setTop (mkF m 3 #[.val (.ref r8), .val (.int q0), .val (.int (0 : Int32)), .unset, .unset, .unset, .unset] [(.ref r8)])) _
    refine st1 _ ?_
    show Steps p.tables e below (T1.setTop (mkF m 6 #[.val (.ref r8), .val (.int q0), .val (.int (0 : Int32)), .unset, .unset, .unset, .unset] [(.ref r8_c)])) _
    refine XS.astoreN X1.here hx rfl (hb hby own_d2_6) rfl rfl (l' := #[.val (.ref r8), .val (.int q0), .val (.int (0 : Int32)), .val (.ref r8_c), .unset, .unset, .unset]) rfl ?_
    show Steps p.tables e below (T1.setTop (mkF m 7 #[.val (.ref r8), .val (.int q0), .val (.int (0 : Int32)), .val (.ref r8_c), .unset, .unset, .unset] [])) _
    refine XS.aloadN X1.here hx rfl (hb hby own_d2_7) rfl rfl ?_
    show Steps p.tables e below (T1.setTop (mkF m 8 #[.val (.ref r8), .val (.int q0), .val (.int (0 : Int32)), .val (.ref r8_c), .unset, .unset, .unset] [(.ref r8_c)])) _
    refine X1.arraylength hx (by rw [e1]; exact Ar_r8_c.1) (State.isArrayOf_alike hZ.alike Ar_r8_c.2.1) (g := (mkF m 8 #[.val (.ref r8), .val (.int q0), .val (.int (0 : Int32)), .val (.ref r8_c), .unset, .unset, .unset] [(.ref r8_c)])) rfl rfl (hb hby own_d2_8) _ ?_
    rw [len_of Sz_r8_c (by decide)]
    show Steps p.tables e below (T1.setTop (mkF m 9 #[.val (.ref r8), .val (.int q0), .val (.int (0 : Int32)), .val (.ref r8_c), .unset, .unset, .unset] [(.int (0 : Int32))])) _
    refine XS.istore X1.here hx rfl (hb hby own_d2_9) rfl (l' := #[.val (.ref r8), .val (.int q0), .val (.int (0 : Int32)), .val (.ref r8_c), .val (.int (0 : Int32)), .unset, .unset]) rfl ?_
    show Steps p.tables e below (T1.setTop (mkF m 11 #[.val (.ref r8), .val (.int q0), .val (.int (0 : Int32)), .val (.ref r8_c), .val (.int (0 : Int32)), .unset, .unset] [])) _
    refine XS.iconst X1.here hx rfl (hb hby own_d2_11) ?_
    show Steps p.tables e below (T1.setTop (mkF m 12 #[.val (.ref r8), .val (.int q0), .val (.int (0 : Int32)), .val (.ref r8_c), .val (.int (0 : Int32)), .unset, .unset] [(.int (0 : Int32))])) _
    refine XS.istore X1.here hx rfl (hb hby own_d2_12) rfl (l' := #[.val (.ref r8), .val (.int q0), .val (.int (0 : Int32)), .val (.ref r8_c), .val (.int (0 : Int32)), .val (.int (0 : Int32)), .unset]) rfl ?_
    show Steps p.tables e below (T1.setTop (mkF m 14 #[.val (.ref r8), .val (.int q0), .val (.int (0 : Int32)), .val (.ref r8_c), .val (.int (0 : Int32)), .val (.int (0 : Int32)), .unset] [])) _
    refine XS.iload X1.here hx rfl (hb hby own_d2_14) rfl ?_
    show Steps p.tables e below (T1.setTop (mkF m 16 #[.val (.ref r8), .val (.int q0), .val (.int (0 : Int32)), .val (.ref r8_c), .val (.int (0 : Int32)), .val (.int (0 : Int32)), .unset] [(.int (0 : Int32))])) _
    refine XS.iload X1.here hx rfl (hb hby own_d2_16) rfl ?_
    show Steps p.tables e below (T1.setTop (mkF m 18 #[.val (.ref r8), .val (.int q0), .val (.int (0 : Int32)), .val (.ref r8_c), .val (.int (0 : Int32)), .val (.int (0 : Int32)), .unset] [(.int (0 : Int32)), (.int (0 : Int32))])) _
    refine XS.icmpYes X1.here hx rfl (pc0 := 18) (pc' := 47) rfl (hb hby own_d2_18) rfl (flt (by decide : ¬ ((0 : Int32) < (0 : Int32)))).2.1 (by decide) (by decide) ?_
    show Steps p.tables e below (T1.setTop (mkF m 47 #[.val (.ref r8), .val (.int q0), .val (.int (0 : Int32)), .val (.ref r8_c), .val (.int (0 : Int32)), .val (.int (0 : Int32)), .unset] [])) _
    refine XS.iloadN X1.here hx rfl (hb hby own_d2_47) rfl ?_
    show Steps p.tables e below (T1.setTop (mkF m 48 #[.val (.ref r8), .val (.int q0), .val (.int (0 : Int32)), .val (.ref r8_c), .val (.int (0 : Int32)), .val (.int (0 : Int32)), .unset] [(.int (0 : Int32))])) _
    exact retN X1 hx (t := .boolean) Bd.returns (by simp) (hb hby own_d2_48) hr
  · exact ⟨rfl, N0, e1⟩
set_option maxRecDepth 65536 in
set_option maxHeartbeats 40000000 in
theorem own_r3_45 (l : Launch) (Z : State) (a0 : Array Value) (hw : ∀ d ∈ tables_1, d.before a0 Z = true) (ws : List Jvm.Cond) (r0 : Addr) (r1 : Addr) (r2 : Addr) (r3 : Addr) (r4 : Addr) (r5 : Addr) (r6 : Addr) (r7 : Addr) (r8 : Addr) (r0_c : Addr) (cl_r0_c : Cell) (r1_c : Addr) (cl_r1_c : Cell) (r2_c : Addr) (cl_r2_c : Cell) (r3_c : Addr) (cl_r3_c : Cell) (r4_c : Addr) (cl_r4_c : Cell) (r5_c : Addr) (cl_r5_c : Cell) (r6_c : Addr) (cl_r6_c : Cell) (r7_c : Addr) (cl_r7_c : Cell) (r8_c : Addr) (cl_r8_c : Cell) (h0 : Heap) (n0 : Nat) (Z0 : n0 ≤ h0.size) (F : own_W Z h0 r0 r1 r2 r3 r4 r5 r6 r7 r8 r0_c cl_r0_c r1_c cl_r1_c r2_c cl_r2_c r3_c cl_r3_c r4_c cl_r4_c r5_c cl_r5_c r6_c cl_r6_c r7_c cl_r7_c r8_c cl_r8_c) (q0 : Int32)  :
    MetFree l (⟨"com/example/urbana/urbana/protocol/CommandTakesPinLaw", "expected", "(II)Z"⟩ : MethodName) (head1 (Jvm.Cond.code (⟨"com/example/urbana/urbana/protocol/CommandTakesPinLaw", "expected", "(II)Z"⟩ : MethodName) method_3_code 2 (some .boolean) :: ws) ({ frames := 0, cells := 0, slots := 0, locals := 0 } : Room)) (fun a U => a = #[(.int (5 : Int32)), (.int q0)] ∧ Z.Warmed39 U.vm ∧ U.heap = h0) (fun _ _ _ _ _ => True) (fun _ U o U' => ∃ v L, o = .returned v ∧ own_Q (.int (0 : Int32)) h0 n0 v U'.heap L ∧ FrameEnd U o U' L ({ frames := 0, cells := 0, slots := 0, locals := 0 } : Room).cells ({ frames := 0, cells := 0, slots := 0, locals := 0 } : Room).slots) := by
  obtain ⟨S_r0, E_r0, S_r1, E_r1, S_r2, E_r2, S_r3, E_r3, S_r4, E_r4, S_r5, E_r5, S_r6, E_r6, S_r7, E_r7, S_r8, E_r8, F_r0_counts, Ar_r0_c, F_r1_counts, Ar_r1_c, F_r2_counts, Ar_r2_c, F_r3_counts, Ar_r3_c, F_r4_counts, Ar_r4_c, F_r5_counts, Ar_r5_c, F_r6_counts, Ar_r6_c, F_r7_counts, Ar_r7_c, F_r8_counts, Ar_r8_c, Sz_r0_c, El_r0_c_0, Sz_r1_c, El_r1_c_0, El_r1_c_1, Sz_r2_c, El_r2_c_0, Sz_r3_c, Sz_r4_c, Sz_r5_c, Sz_r6_c, Sz_r7_c, Sz_r8_c⟩ := id F
  refine MetFree.of_bodySF (plainFor_of_name own_pn_CommandTakesPinLaw) hisR ?_
  intro p e s m args below meth c s₁ Bd hml0 hP hK
  obtain ⟨rfl, hZ, hh⟩ := hP
  have hx := Bd.exec
  have hby := Bd.bytes
  have hml : c.maxLocals = 2 := hml0
  have hown : s.vm.findClass "com/example/urbana/urbana/protocol/CommandTakesPinLaw" = some m.cls := findClass_of_methodNamed Bd.named
  have X0 : Stand p l e ({ frames := 0, cells := 0, slots := 0, locals := 0 } : Room) s m #[(.int (5 : Int32)), (.int q0)] below meth c s₁ [] 0 0 := Stand.of_body Bd
  have e0 : s₁.heap = h0 := by rw [← hh, Bd.state]; rfl
  have N0 := Fr.nil n0
  have pre0 : ∀ t, Steps p.tables e below (s₁.setTop (mkF m 0 #[.val (.int (5 : Int32)), .val (.int q0)] [])) t → Steps p.tables e below (s₁.setTop (entryFrame m #[(.int (5 : Int32)), (.int q0)] 2)) t := fun t k => castTop (own_ef3_II m (5 : Int32) q0) k
  obtain ⟨fs, hr, hrun, hended, hW, hsame⟩ := X0.leave (v := some (.int (0 : Int32))) (fun h => by rw [Bd.returns] at h; cases h)
  refine ⟨_, _, pre0 _ ?_, hrun, hended, _, _, rfl, ?_, ⟨_, rfl⟩, hW, hsame.mono (by decide) (by decide)⟩
  · show Steps p.tables e below (s₁.setTop (mkF m 0 #[.val (.int (5 : Int32)), .val (.int q0)] [])) _
    refine XS.iloadN X0.here hx rfl (hb hby own_d3_0) rfl ?_
    show Steps p.tables e below (s₁.setTop (mkF m 1 #[.val (.int (5 : Int32)), .val (.int q0)] [(.int (5 : Int32))])) _
    refine XS.ifYes X0.here hx rfl (pc0 := 1) (pc' := 15) rfl (hb hby own_d3_1) rfl ((if0 _ _).trans (feq (by decide : ¬ ((5 : Int32) = (0 : Int32)))).2) (by decide) (by decide) ?_
    show Steps p.tables e below (s₁.setTop (mkF m 15 #[.val (.int (5 : Int32)), .val (.int q0)] [])) _
    refine XS.iloadN X0.here hx rfl (hb hby own_d3_15) rfl ?_
    show Steps p.tables e below (s₁.setTop (mkF m 16 #[.val (.int (5 : Int32)), .val (.int q0)] [(.int (5 : Int32))])) _
    refine XS.iconst X0.here hx rfl (hb hby own_d3_16) ?_
    show Steps p.tables e below (s₁.setTop (mkF m 17 #[.val (.int (5 : Int32)), .val (.int q0)] [(.int (1 : Int32)), (.int (5 : Int32))])) _
    refine XS.icmpYes X0.here hx rfl (pc0 := 17) (pc' := 35) rfl (hb hby own_d3_17) rfl (feq (by decide : ¬ ((5 : Int32) = (1 : Int32)))).2 (by decide) (by decide) ?_
    show Steps p.tables e below (s₁.setTop (mkF m 35 #[.val (.int (5 : Int32)), .val (.int q0)] [])) _
    refine XS.iloadN X0.here hx rfl (hb hby own_d3_35) rfl ?_
    show Steps p.tables e below (s₁.setTop (mkF m 36 #[.val (.int (5 : Int32)), .val (.int q0)] [(.int (5 : Int32))])) _
    refine XS.iconst X0.here hx rfl (hb hby own_d3_36) ?_
    show Steps p.tables e below (s₁.setTop (mkF m 37 #[.val (.int (5 : Int32)), .val (.int q0)] [(.int (2 : Int32)), (.int (5 : Int32))])) _
    refine XS.icmpYes X0.here hx rfl (pc0 := 37) (pc' := 51) rfl (hb hby own_d3_37) rfl (feq (by decide : ¬ ((5 : Int32) = (2 : Int32)))).2 (by decide) (by decide) ?_
    show Steps p.tables e below (s₁.setTop (mkF m 51 #[.val (.int (5 : Int32)), .val (.int q0)] [])) _
    refine XS.iconst X0.here hx rfl (hb hby own_d3_51) ?_
    show Steps p.tables e below (s₁.setTop (mkF m 52 #[.val (.int (5 : Int32)), .val (.int q0)] [(.int (0 : Int32))])) _
    exact retN X0 hx (t := .boolean) Bd.returns (by simp) (hb hby own_d3_52) hr
  · exact ⟨rfl, N0, e0⟩
set_option maxRecDepth 65536 in
set_option maxHeartbeats 40000000 in
theorem own_r0_k5m0c0 (l : Launch) (Z : State) (a0 : Array Value) (hw : ∀ d ∈ tables_1, d.before a0 Z = true) (ws : List Jvm.Cond) (r0 : Addr) (r1 : Addr) (r2 : Addr) (r3 : Addr) (r4 : Addr) (r5 : Addr) (r6 : Addr) (r7 : Addr) (r8 : Addr) (r0_c : Addr) (cl_r0_c : Cell) (r1_c : Addr) (cl_r1_c : Cell) (r2_c : Addr) (cl_r2_c : Cell) (r3_c : Addr) (cl_r3_c : Cell) (r4_c : Addr) (cl_r4_c : Cell) (r5_c : Addr) (cl_r5_c : Cell) (r6_c : Addr) (cl_r6_c : Cell) (r7_c : Addr) (cl_r7_c : Cell) (r8_c : Addr) (cl_r8_c : Cell) (h0 : Heap) (n0 : Nat) (Z0 : n0 ≤ h0.size) (F : own_W Z h0 r0 r1 r2 r3 r4 r5 r6 r7 r8 r0_c cl_r0_c r1_c cl_r1_c r2_c cl_r2_c r3_c cl_r3_c r4_c cl_r4_c r5_c cl_r5_c r6_c cl_r6_c r7_c cl_r7_c r8_c cl_r8_c) (i0 : Int32) (i1 : Int32) (i2 : Int32) (hk : ((i0 &&& (2147483647 : Int32)) % (9 : Int32)) = (5 : Int32)) (hm : (i1 &&& (1 : Int32)) = (0 : Int32)) :
    MetFree l x (head1 (Jvm.Cond.code x code maxLocals ret :: ws) room_1) (fun a U => a = #[(.int i0), (.int i1), (.int i2)] ∧ Z.Warmed39 U.vm ∧ U.heap = h0) (fun _ _ _ _ _ => True) (fun _ U o U' => ∃ v L, o = .returned v ∧ own_Q (.int (1 : Int32)) h0 n0 v U'.heap L ∧ FrameEnd U o U' L room_1.cells room_1.slots) := by
  obtain ⟨S_r0, E_r0, S_r1, E_r1, S_r2, E_r2, S_r3, E_r3, S_r4, E_r4, S_r5, E_r5, S_r6, E_r6, S_r7, E_r7, S_r8, E_r8, F_r0_counts, Ar_r0_c, F_r1_counts, Ar_r1_c, F_r2_counts, Ar_r2_c, F_r3_counts, Ar_r3_c, F_r4_counts, Ar_r4_c, F_r5_counts, Ar_r5_c, F_r6_counts, Ar_r6_c, F_r7_counts, Ar_r7_c, F_r8_counts, Ar_r8_c, Sz_r0_c, El_r0_c_0, Sz_r1_c, El_r1_c_0, El_r1_c_1, Sz_r2_c, El_r2_c_0, Sz_r3_c, Sz_r4_c, Sz_r5_c, Sz_r6_c, Sz_r7_c, Sz_r8_c⟩ := id F
  refine MetFree.of_bodySF (plainFor_of_name own_pn_CommandTakesPinLaw) hisR ?_
  intro p e s m args below meth c s₁ Bd hml0 hP hK
  obtain ⟨rfl, hZ, hh⟩ := hP
  have hx := Bd.exec
  have hby := Bd.bytes
  have hml : c.maxLocals = 6 := hml0
  have hown : s.vm.findClass "com/example/urbana/urbana/protocol/CommandTakesPinLaw" = some m.cls := findClass_of_methodNamed Bd.named
  have X0 : Stand p l e room_1 s m #[(.int i0), (.int i1), (.int i2)] below meth c s₁ [] 0 0 := Stand.of_body Bd
  have e0 : s₁.heap = h0 := by rw [← hh, Bd.state]; rfl
  have N0 := Fr.nil n0
  have pre0 : ∀ t, Steps p.tables e below (s₁.setTop (mkF m 0 #[.val (.int i0), .val (.int i1), .val (.int i2), .unset, .unset, .unset] [])) t → Steps p.tables e below (s₁.setTop (entryFrame m #[(.int i0), (.int i1), (.int i2)] maxLocals)) t := fun t k => castTop (own_ef0_III m i0 i1 i2) k
  obtain ⟨_, _, ⟨T1, L1, k1, n1⟩, -, X1, ⟨Lc1, hQ1, l1, y1, z1⟩, st1⟩ := Jvm.LawKit.callS X0 hx (y := (⟨"com/example/urbana/urbana/protocol/CommandTakesPinLaw", "pick", "(I)Lcom/example/urbana/urbana/protocol/Command;"⟩ : MethodName)) hown (mvT hZ (hw _ (List.mem_of_getElem? (i := 1) rfl))) (mvT hZ (hw _ (List.mem_of_getElem? (i := 2) rfl))) (mvT hZ (hw _ (List.mem_of_getElem? (i := 3) rfl))) (mvT hZ (hw _ (List.mem_of_getElem? (i := 4) rfl))) (by decide) (backOf (W := 0) (own_r1_43 l Z a0 hw [] r0 r1 r2 r3 r4 r5 r6 r7 r8 r0_c cl_r0_c r1_c cl_r1_c r2_c cl_r2_c r3_c cl_r3_c r4_c cl_r4_c r5_c cl_r5_c r6_c cl_r6_c r7_c cl_r7_c r8_c cl_r8_c h0 n0 Z0 F ) hZ (hw _ (List.mem_of_getElem? (i := 4) rfl)) (hw _ (List.mem_of_getElem? (i := 3) rfl)) (by decide) (by decide)) (g := (mkF m 29 #[.val (.int i0), .val (.int i1), .val (.int i2), .val (.int (5 : Int32)), .val (.int i2), .unset] [(.int (5 : Int32))])) rfl (by rw [hml]; rfl) (argsL := [(.int (5 : Int32))]) (rest := []) (lenOf own_pd0 rfl) rfl (by show 2 * 0 + _ ≤ _; exact Nat.le_of_eq rfl) (hb hby at_29) (fun _ _ => ⟨rfl, e0, (by decide : 0 + 0 ≤ _), (by decide : 0 + 0 ≤ _)⟩)
  dsimp only [Pt.U, Pt.locs, Pt.cells, Pt.slots] at X1 l1 y1 z1 st1 hQ1
  subst l1 y1 z1
  obtain ⟨rfl, N1q, e1⟩ := hQ1
  have N1 := Fr.app N0 N1q
  obtain ⟨cq2, kq2, q2a, q2b, q2c⟩ := isOf hZ e1 E_r8
  obtain ⟨_, _, ⟨T2, L2, k2, n2⟩, -, X2, ⟨Lc2, hQ2, l2, y2, z2⟩, st2⟩ := X1.virtualBack hx (y := (⟨"com/example/urbana/urbana/protocol/Command", "takes", "(I)Z"⟩ : MethodName)) (z := (⟨"com/example/urbana/urbana/protocol/Command", "takes", "(I)Z"⟩ : MethodName)) hown (mvT hZ (hw _ (List.mem_of_getElem? (i := 8) rfl))) (mvT hZ (hw _ (List.mem_of_getElem? (i := 9) rfl))) (notFace_of_selects (args := #[]) (mvT hZ (hw _ (List.mem_of_getElem? (i := 11) rfl)))) (mvT hZ (hw _ (List.mem_of_getElem? (i := 11) rfl))) (mvT hZ (hw _ (List.mem_of_getElem? (i := 10) rfl))) (by decide) (backOf (W := 0) (own_r2_44 l Z a0 hw [] r0 r1 r2 r3 r4 r5 r6 r7 r8 r0_c cl_r0_c r1_c cl_r1_c r2_c cl_r2_c r3_c cl_r3_c r4_c cl_r4_c r5_c cl_r5_c r6_c cl_r6_c r7_c cl_r7_c r8_c cl_r8_c h0 n0 Z0 F i2) hZ (hw _ (List.mem_of_getElem? (i := 12) rfl)) (hw _ (List.mem_of_getElem? (i := 6) rfl)) (by decide) (by decide)) q2a q2c (g := (mkF m 38 #[.val (.int i0), .val (.int i1), .val (.int i2), .val (.int (5 : Int32)), .val (.int i2), .val (.ref r8)] [(.int i2), (.ref r8)])) rfl (by rw [hml]; rfl) (Steps.refl _) (argsL := [(.int i2)]) (rest := []) (lenOf own_pd1 rfl) rfl (by show 2 * 0 + _ ≤ _; exact Nat.le_of_eq rfl) (hb hby at_38) (fun _ _ => ⟨rfl, e1, (by decide : 0 + 0 ≤ _), (by decide : 0 + 0 ≤ _)⟩)
  dsimp only [Pt.U, Pt.locs, Pt.cells, Pt.slots] at X2 l2 y2 z2 st2 hQ2
  subst l2 y2 z2
  obtain ⟨rfl, N2q, e2⟩ := hQ2
  have N2 := Fr.app N1 N2q
  obtain ⟨_, _, ⟨T3, L3, k3, n3⟩, -, X3, ⟨Lc3, hQ3, l3, y3, z3⟩, st3⟩ := Jvm.LawKit.callS X2 hx (y := (⟨"com/example/urbana/urbana/protocol/CommandTakesPinLaw", "expected", "(II)Z"⟩ : MethodName)) hown (mvT hZ (hw _ (List.mem_of_getElem? (i := 15) rfl))) (mvT hZ (hw _ (List.mem_of_getElem? (i := 16) rfl))) (mvT hZ (hw _ (List.mem_of_getElem? (i := 3) rfl))) (mvT hZ (hw _ (List.mem_of_getElem? (i := 17) rfl))) (by decide) (backOf (W := 1) (own_r3_45 l Z a0 hw [] r0 r1 r2 r3 r4 r5 r6 r7 r8 r0_c cl_r0_c r1_c cl_r1_c r2_c cl_r2_c r3_c cl_r3_c r4_c cl_r4_c r5_c cl_r5_c r6_c cl_r6_c r7_c cl_r7_c r8_c cl_r8_c h0 n0 Z0 F i2) hZ (hw _ (List.mem_of_getElem? (i := 17) rfl)) (hw _ (List.mem_of_getElem? (i := 3) rfl)) (by decide) (by decide)) (g := (mkF m 44 #[.val (.int i0), .val (.int i1), .val (.int i2), .val (.int (5 : Int32)), .val (.int i2), .val (.ref r8)] [(.int i2), (.int (5 : Int32)), (.int (0 : Int32))])) rfl (by rw [hml]; rfl) (argsL := [(.int (5 : Int32)), (.int i2)]) (rest := [(.int (0 : Int32))]) (lenOf own_pd2 rfl) rfl (by show 2 * 0 + _ ≤ _; exact Nat.le_of_eq rfl) (hb hby at_44) (fun _ _ => ⟨rfl, e2, (by decide : 0 + 0 ≤ _), (by decide : 0 + 0 ≤ _)⟩)
  dsimp only [Pt.U, Pt.locs, Pt.cells, Pt.slots] at X3 l3 y3 z3 st3 hQ3
  subst l3 y3 z3
  obtain ⟨rfl, N3q, e3⟩ := hQ3
  have N3 := Fr.app N2 N3q
  obtain ⟨fs, hr, hrun, hended, hW, hsame⟩ := X3.leave (v := some (.int (1 : Int32))) (fun h => by rw [Bd.returns] at h; cases h)
  refine ⟨_, _, pre0 _ ?_, hrun, hended, _, _, rfl, ?_, ⟨_, rfl⟩, hW, hsame.mono (by decide) (by decide)⟩
  · show Steps p.tables e below (s₁.setTop (mkF m 0 #[.val (.int i0), .val (.int i1), .val (.int i2), .unset, .unset, .unset] [])) _
    refine XS.iloadN X0.here hx rfl (hb hby at_0) rfl ?_
    show Steps p.tables e below (s₁.setTop (mkF m 1 #[.val (.int i0), .val (.int i1), .val (.int i2), .unset, .unset, .unset] [(.int i0)])) _
    refine X0.ldcInt hx hown (mvT hZ (hw _ (List.mem_of_getElem? (i := 0) rfl))) (g := (mkF m 1 #[.val (.int i0), .val (.int i1), .val (.int i2), .unset, .unset, .unset] [(.int i0)])) rfl (hb hby at_1) _ ?_
    show Steps p.tables e below (s₁.setTop (mkF m 3 #[.val (.int i0), .val (.int i1), .val (.int i2), .unset, .unset, .unset] [(.int (2147483647 : Int32)), (.int i0)])) _
    refine XS.iand X0.here hx rfl (hb hby at_3) rfl ?_
    show Steps p.tables e below (s₁.setTop (mkF m 4 #[.val (.int i0), .val (.int i1), .val (.int i2), .unset, .unset, .unset] [(.int (i0 &&& (2147483647 : Int32)))])) _
    refine XS.bipush X0.here hx rfl (hb hby at_4) ?_
    show Steps p.tables e below (s₁.setTop (mkF m 6 #[.val (.int i0), .val (.int i1), .val (.int i2), .unset, .unset, .unset] [(.int (9 : Int32)), (.int (i0 &&& (2147483647 : Int32)))])) _
    refine iremM (g := (mkF m 6 #[.val (.int i0), .val (.int i1), .val (.int i2), .unset, .unset, .unset] [(.int (9 : Int32)), (.int (i0 &&& (2147483647 : Int32)))])) X0 hx rfl (hb hby at_6) rfl (by decide) ?_
    show Steps p.tables e below (s₁.setTop (mkF m 7 #[.val (.int i0), .val (.int i1), .val (.int i2), .unset, .unset, .unset] [(.int ((i0 &&& (2147483647 : Int32)) % (9 : Int32)))])) _
    rw [hk]
    show Steps p.tables e below (s₁.setTop (mkF m 7 #[.val (.int i0), .val (.int i1), .val (.int i2), .unset, .unset, .unset] [(.int (5 : Int32))])) _
    refine XS.istoreN X0.here hx rfl (hb hby at_7) rfl (l' := #[.val (.int i0), .val (.int i1), .val (.int i2), .val (.int (5 : Int32)), .unset, .unset]) rfl ?_
    show Steps p.tables e below (s₁.setTop (mkF m 8 #[.val (.int i0), .val (.int i1), .val (.int i2), .val (.int (5 : Int32)), .unset, .unset] [])) _
    refine XS.iloadN X0.here hx rfl (hb hby at_8) rfl ?_
    show Steps p.tables e below (s₁.setTop (mkF m 9 #[.val (.int i0), .val (.int i1), .val (.int i2), .val (.int (5 : Int32)), .unset, .unset] [(.int i1)])) _
    refine XS.iconst X0.here hx rfl (hb hby at_9) ?_
    show Steps p.tables e below (s₁.setTop (mkF m 10 #[.val (.int i0), .val (.int i1), .val (.int i2), .val (.int (5 : Int32)), .unset, .unset] [(.int (1 : Int32)), (.int i1)])) _
    refine XS.iand X0.here hx rfl (hb hby at_10) rfl ?_
    show Steps p.tables e below (s₁.setTop (mkF m 11 #[.val (.int i0), .val (.int i1), .val (.int i2), .val (.int (5 : Int32)), .unset, .unset] [(.int (i1 &&& (1 : Int32)))])) _
    rw [hm]
    show Steps p.tables e below (s₁.setTop (mkF m 11 #[.val (.int i0), .val (.int i1), .val (.int i2), .val (.int (5 : Int32)), .unset, .unset] [(.int (0 : Int32))])) _
    refine XS.ifYes X0.here hx rfl (pc0 := 11) (pc' := 25) rfl (hb hby at_11) rfl ((if0 _ _).trans (teq (by decide : (0 : Int32) = (0 : Int32))).1) (by decide) (by decide) ?_
    show Steps p.tables e below (s₁.setTop (mkF m 25 #[.val (.int i0), .val (.int i1), .val (.int i2), .val (.int (5 : Int32)), .unset, .unset] [])) _
    refine XS.iloadN X0.here hx rfl (hb hby at_25) rfl ?_
    show Steps p.tables e below (s₁.setTop (mkF m 26 #[.val (.int i0), .val (.int i1), .val (.int i2), .val (.int (5 : Int32)), .unset, .unset] [(.int i2)])) _
    refine XS.istore X0.here hx rfl (hb hby at_26) rfl (l' := #[.val (.int i0), .val (.int i1), .val (.int i2), .val (.int (5 : Int32)), .val (.int i2), .unset]) rfl ?_
    show Steps p.tables e below (s₁.setTop (mkF m 28 #[.val (.int i0), .val (.int i1), .val (.int i2), .val (.int (5 : Int32)), .val (.int i2), .unset] [])) _
    refine XS.iloadN X0.here hx rfl (hb hby at_28) rfl ?_
    show Steps p.tables e below (s₁.setTop (mkF m 29 #[.val (.int i0), .val (.int i1), .val (.int i2), .val (.int (5 : Int32)), .val (.int i2), .unset] [(.int (5 : Int32))])) _
    refine st1 _ ?_
    show Steps p.tables e below (T1.setTop (mkF m 32 #[.val (.int i0), .val (.int i1), .val (.int i2), .val (.int (5 : Int32)), .val (.int i2), .unset] [(.ref r8)])) _
    refine XS.astore X1.here hx rfl (hb hby at_32) rfl rfl (l' := #[.val (.int i0), .val (.int i1), .val (.int i2), .val (.int (5 : Int32)), .val (.int i2), .val (.ref r8)]) rfl ?_
    show Steps p.tables e below (T1.setTop (mkF m 34 #[.val (.int i0), .val (.int i1), .val (.int i2), .val (.int (5 : Int32)), .val (.int i2), .val (.ref r8)] [])) _
    refine XS.aload X1.here hx rfl (hb hby at_34) rfl rfl ?_
    show Steps p.tables e below (T1.setTop (mkF m 36 #[.val (.int i0), .val (.int i1), .val (.int i2), .val (.int (5 : Int32)), .val (.int i2), .val (.ref r8)] [(.ref r8)])) _
    refine XS.iload X1.here hx rfl (hb hby at_36) rfl ?_
    show Steps p.tables e below (T1.setTop (mkF m 38 #[.val (.int i0), .val (.int i1), .val (.int i2), .val (.int (5 : Int32)), .val (.int i2), .val (.ref r8)] [(.int i2), (.ref r8)])) _
    refine st2.trans ?_
    show Steps p.tables e below (T2.setTop (mkF m 41 #[.val (.int i0), .val (.int i1), .val (.int i2), .val (.int (5 : Int32)), .val (.int i2), .val (.ref r8)] [(.int (0 : Int32))])) _
    refine XS.iloadN X2.here hx rfl (hb hby at_41) rfl ?_
    show Steps p.tables e below (T2.setTop (mkF m 42 #[.val (.int i0), .val (.int i1), .val (.int i2), .val (.int (5 : Int32)), .val (.int i2), .val (.ref r8)] [(.int (5 : Int32)), (.int (0 : Int32))])) _
    refine XS.iload X2.here hx rfl (hb hby at_42) rfl ?_
    show Steps p.tables e below (T2.setTop (mkF m 44 #[.val (.int i0), .val (.int i1), .val (.int i2), .val (.int (5 : Int32)), .val (.int i2), .val (.ref r8)] [(.int i2), (.int (5 : Int32)), (.int (0 : Int32))])) _
    refine st3 _ ?_
    show Steps p.tables e below (T3.setTop (mkF m 47 #[.val (.int i0), .val (.int i1), .val (.int i2), .val (.int (5 : Int32)), .val (.int i2), .val (.ref r8)] [(.int (0 : Int32)), (.int (0 : Int32))])) _
    refine XS.icmpNo X3.here hx rfl (hb hby at_47) rfl (teq (by decide : (0 : Int32) = (0 : Int32))).2 ?_
    show Steps p.tables e below (T3.setTop (mkF m 50 #[.val (.int i0), .val (.int i1), .val (.int i2), .val (.int (5 : Int32)), .val (.int i2), .val (.ref r8)] [])) _
    refine XS.iconst X3.here hx rfl (hb hby at_50) ?_
    show Steps p.tables e below (T3.setTop (mkF m 51 #[.val (.int i0), .val (.int i1), .val (.int i2), .val (.int (5 : Int32)), .val (.int i2), .val (.ref r8)] [(.int (1 : Int32))])) _
    refine XS.goto X3.here hx rfl (pc0 := 51) (pc' := 55) rfl (hb hby at_51) (by decide) (by decide) ?_
    show Steps p.tables e below (T3.setTop (mkF m 55 #[.val (.int i0), .val (.int i1), .val (.int i2), .val (.int (5 : Int32)), .val (.int i2), .val (.ref r8)] [(.int (1 : Int32))])) _
    exact retN X3 hx (t := .boolean) Bd.returns (by simp) (hb hby at_55) hr
  · exact ⟨rfl, N3, e3⟩
set_option maxRecDepth 65536 in
set_option maxHeartbeats 40000000 in
theorem own_r0_k5m1c0 (l : Launch) (Z : State) (a0 : Array Value) (hw : ∀ d ∈ tables_1, d.before a0 Z = true) (ws : List Jvm.Cond) (r0 : Addr) (r1 : Addr) (r2 : Addr) (r3 : Addr) (r4 : Addr) (r5 : Addr) (r6 : Addr) (r7 : Addr) (r8 : Addr) (r0_c : Addr) (cl_r0_c : Cell) (r1_c : Addr) (cl_r1_c : Cell) (r2_c : Addr) (cl_r2_c : Cell) (r3_c : Addr) (cl_r3_c : Cell) (r4_c : Addr) (cl_r4_c : Cell) (r5_c : Addr) (cl_r5_c : Cell) (r6_c : Addr) (cl_r6_c : Cell) (r7_c : Addr) (cl_r7_c : Cell) (r8_c : Addr) (cl_r8_c : Cell) (h0 : Heap) (n0 : Nat) (Z0 : n0 ≤ h0.size) (F : own_W Z h0 r0 r1 r2 r3 r4 r5 r6 r7 r8 r0_c cl_r0_c r1_c cl_r1_c r2_c cl_r2_c r3_c cl_r3_c r4_c cl_r4_c r5_c cl_r5_c r6_c cl_r6_c r7_c cl_r7_c r8_c cl_r8_c) (i0 : Int32) (i1 : Int32) (i2 : Int32) (hk : ((i0 &&& (2147483647 : Int32)) % (9 : Int32)) = (5 : Int32)) (hm : (i1 &&& (1 : Int32)) = (1 : Int32)) :
    MetFree l x (head1 (Jvm.Cond.code x code maxLocals ret :: ws) room_1) (fun a U => a = #[(.int i0), (.int i1), (.int i2)] ∧ Z.Warmed39 U.vm ∧ U.heap = h0) (fun _ _ _ _ _ => True) (fun _ U o U' => ∃ v L, o = .returned v ∧ own_Q (.int (1 : Int32)) h0 n0 v U'.heap L ∧ FrameEnd U o U' L room_1.cells room_1.slots) := by
  obtain ⟨S_r0, E_r0, S_r1, E_r1, S_r2, E_r2, S_r3, E_r3, S_r4, E_r4, S_r5, E_r5, S_r6, E_r6, S_r7, E_r7, S_r8, E_r8, F_r0_counts, Ar_r0_c, F_r1_counts, Ar_r1_c, F_r2_counts, Ar_r2_c, F_r3_counts, Ar_r3_c, F_r4_counts, Ar_r4_c, F_r5_counts, Ar_r5_c, F_r6_counts, Ar_r6_c, F_r7_counts, Ar_r7_c, F_r8_counts, Ar_r8_c, Sz_r0_c, El_r0_c_0, Sz_r1_c, El_r1_c_0, El_r1_c_1, Sz_r2_c, El_r2_c_0, Sz_r3_c, Sz_r4_c, Sz_r5_c, Sz_r6_c, Sz_r7_c, Sz_r8_c⟩ := id F
  refine MetFree.of_bodySF (plainFor_of_name own_pn_CommandTakesPinLaw) hisR ?_
  intro p e s m args below meth c s₁ Bd hml0 hP hK
  obtain ⟨rfl, hZ, hh⟩ := hP
  have hx := Bd.exec
  have hby := Bd.bytes
  have hml : c.maxLocals = 6 := hml0
  have hown : s.vm.findClass "com/example/urbana/urbana/protocol/CommandTakesPinLaw" = some m.cls := findClass_of_methodNamed Bd.named
  have X0 : Stand p l e room_1 s m #[(.int i0), (.int i1), (.int i2)] below meth c s₁ [] 0 0 := Stand.of_body Bd
  have e0 : s₁.heap = h0 := by rw [← hh, Bd.state]; rfl
  have N0 := Fr.nil n0
  have pre0 : ∀ t, Steps p.tables e below (s₁.setTop (mkF m 0 #[.val (.int i0), .val (.int i1), .val (.int i2), .unset, .unset, .unset] [])) t → Steps p.tables e below (s₁.setTop (entryFrame m #[(.int i0), (.int i1), (.int i2)] maxLocals)) t := fun t k => castTop (own_ef0_III m i0 i1 i2) k
  obtain ⟨_, _, ⟨T1, L1, k1, n1⟩, -, X1, ⟨Lc1, hQ1, l1, y1, z1⟩, st1⟩ := Jvm.LawKit.callS X0 hx (y := (⟨"com/example/urbana/urbana/protocol/CommandTakesPinLaw", "pick", "(I)Lcom/example/urbana/urbana/protocol/Command;"⟩ : MethodName)) hown (mvT hZ (hw _ (List.mem_of_getElem? (i := 1) rfl))) (mvT hZ (hw _ (List.mem_of_getElem? (i := 2) rfl))) (mvT hZ (hw _ (List.mem_of_getElem? (i := 3) rfl))) (mvT hZ (hw _ (List.mem_of_getElem? (i := 4) rfl))) (by decide) (backOf (W := 0) (own_r1_43 l Z a0 hw [] r0 r1 r2 r3 r4 r5 r6 r7 r8 r0_c cl_r0_c r1_c cl_r1_c r2_c cl_r2_c r3_c cl_r3_c r4_c cl_r4_c r5_c cl_r5_c r6_c cl_r6_c r7_c cl_r7_c r8_c cl_r8_c h0 n0 Z0 F ) hZ (hw _ (List.mem_of_getElem? (i := 4) rfl)) (hw _ (List.mem_of_getElem? (i := 3) rfl)) (by decide) (by decide)) (g := (mkF m 29 #[.val (.int i0), .val (.int i1), .val (.int i2), .val (.int (5 : Int32)), .val (.int (((i1 >>> ((1 : Int32) &&& 31)) &&& (7 : Int32)) - (2 : Int32))), .unset] [(.int (5 : Int32))])) rfl (by rw [hml]; rfl) (argsL := [(.int (5 : Int32))]) (rest := []) (lenOf own_pd0 rfl) rfl (by show 2 * 0 + _ ≤ _; exact Nat.le_of_eq rfl) (hb hby at_29) (fun _ _ => ⟨rfl, e0, (by decide : 0 + 0 ≤ _), (by decide : 0 + 0 ≤ _)⟩)
  dsimp only [Pt.U, Pt.locs, Pt.cells, Pt.slots] at X1 l1 y1 z1 st1 hQ1
  subst l1 y1 z1
  obtain ⟨rfl, N1q, e1⟩ := hQ1
  have N1 := Fr.app N0 N1q
  obtain ⟨cq2, kq2, q2a, q2b, q2c⟩ := isOf hZ e1 E_r8
  obtain ⟨_, _, ⟨T2, L2, k2, n2⟩, -, X2, ⟨Lc2, hQ2, l2, y2, z2⟩, st2⟩ := X1.virtualBack hx (y := (⟨"com/example/urbana/urbana/protocol/Command", "takes", "(I)Z"⟩ : MethodName)) (z := (⟨"com/example/urbana/urbana/protocol/Command", "takes", "(I)Z"⟩ : MethodName)) hown (mvT hZ (hw _ (List.mem_of_getElem? (i := 8) rfl))) (mvT hZ (hw _ (List.mem_of_getElem? (i := 9) rfl))) (notFace_of_selects (args := #[]) (mvT hZ (hw _ (List.mem_of_getElem? (i := 11) rfl)))) (mvT hZ (hw _ (List.mem_of_getElem? (i := 11) rfl))) (mvT hZ (hw _ (List.mem_of_getElem? (i := 10) rfl))) (by decide) (backOf (W := 0) (own_r2_44 l Z a0 hw [] r0 r1 r2 r3 r4 r5 r6 r7 r8 r0_c cl_r0_c r1_c cl_r1_c r2_c cl_r2_c r3_c cl_r3_c r4_c cl_r4_c r5_c cl_r5_c r6_c cl_r6_c r7_c cl_r7_c r8_c cl_r8_c h0 n0 Z0 F (((i1 >>> ((1 : Int32) &&& 31)) &&& (7 : Int32)) - (2 : Int32))) hZ (hw _ (List.mem_of_getElem? (i := 12) rfl)) (hw _ (List.mem_of_getElem? (i := 6) rfl)) (by decide) (by decide)) q2a q2c (g := (mkF m 38 #[.val (.int i0), .val (.int i1), .val (.int i2), .val (.int (5 : Int32)), .val (.int (((i1 >>> ((1 : Int32) &&& 31)) &&& (7 : Int32)) - (2 : Int32))), .val (.ref r8)] [(.int (((i1 >>> ((1 : Int32) &&& 31)) &&& (7 : Int32)) - (2 : Int32))), (.ref r8)])) rfl (by rw [hml]; rfl) (Steps.refl _) (argsL := [(.int (((i1 >>> ((1 : Int32) &&& 31)) &&& (7 : Int32)) - (2 : Int32)))]) (rest := []) (lenOf own_pd1 rfl) rfl (by show 2 * 0 + _ ≤ _; exact Nat.le_of_eq rfl) (hb hby at_38) (fun _ _ => ⟨rfl, e1, (by decide : 0 + 0 ≤ _), (by decide : 0 + 0 ≤ _)⟩)
  dsimp only [Pt.U, Pt.locs, Pt.cells, Pt.slots] at X2 l2 y2 z2 st2 hQ2
  subst l2 y2 z2
  obtain ⟨rfl, N2q, e2⟩ := hQ2
  have N2 := Fr.app N1 N2q
  obtain ⟨_, _, ⟨T3, L3, k3, n3⟩, -, X3, ⟨Lc3, hQ3, l3, y3, z3⟩, st3⟩ := Jvm.LawKit.callS X2 hx (y := (⟨"com/example/urbana/urbana/protocol/CommandTakesPinLaw", "expected", "(II)Z"⟩ : MethodName)) hown (mvT hZ (hw _ (List.mem_of_getElem? (i := 15) rfl))) (mvT hZ (hw _ (List.mem_of_getElem? (i := 16) rfl))) (mvT hZ (hw _ (List.mem_of_getElem? (i := 3) rfl))) (mvT hZ (hw _ (List.mem_of_getElem? (i := 17) rfl))) (by decide) (backOf (W := 1) (own_r3_45 l Z a0 hw [] r0 r1 r2 r3 r4 r5 r6 r7 r8 r0_c cl_r0_c r1_c cl_r1_c r2_c cl_r2_c r3_c cl_r3_c r4_c cl_r4_c r5_c cl_r5_c r6_c cl_r6_c r7_c cl_r7_c r8_c cl_r8_c h0 n0 Z0 F (((i1 >>> ((1 : Int32) &&& 31)) &&& (7 : Int32)) - (2 : Int32))) hZ (hw _ (List.mem_of_getElem? (i := 17) rfl)) (hw _ (List.mem_of_getElem? (i := 3) rfl)) (by decide) (by decide)) (g := (mkF m 44 #[.val (.int i0), .val (.int i1), .val (.int i2), .val (.int (5 : Int32)), .val (.int (((i1 >>> ((1 : Int32) &&& 31)) &&& (7 : Int32)) - (2 : Int32))), .val (.ref r8)] [(.int (((i1 >>> ((1 : Int32) &&& 31)) &&& (7 : Int32)) - (2 : Int32))), (.int (5 : Int32)), (.int (0 : Int32))])) rfl (by rw [hml]; rfl) (argsL := [(.int (5 : Int32)), (.int (((i1 >>> ((1 : Int32) &&& 31)) &&& (7 : Int32)) - (2 : Int32)))]) (rest := [(.int (0 : Int32))]) (lenOf own_pd2 rfl) rfl (by show 2 * 0 + _ ≤ _; exact Nat.le_of_eq rfl) (hb hby at_44) (fun _ _ => ⟨rfl, e2, (by decide : 0 + 0 ≤ _), (by decide : 0 + 0 ≤ _)⟩)
  dsimp only [Pt.U, Pt.locs, Pt.cells, Pt.slots] at X3 l3 y3 z3 st3 hQ3
  subst l3 y3 z3
  obtain ⟨rfl, N3q, e3⟩ := hQ3
  have N3 := Fr.app N2 N3q
  obtain ⟨fs, hr, hrun, hended, hW, hsame⟩ := X3.leave (v := some (.int (1 : Int32))) (fun h => by rw [Bd.returns] at h; cases h)
  refine ⟨_, _, pre0 _ ?_, hrun, hended, _, _, rfl, ?_, ⟨_, rfl⟩, hW, hsame.mono (by decide) (by decide)⟩
  · show Steps p.tables e below (s₁.setTop (mkF m 0 #[.val (.int i0), .val (.int i1), .val (.int i2), .unset, .unset, .unset] [])) _
    refine XS.iloadN X0.here hx rfl (hb hby at_0) rfl ?_
    show Steps p.tables e below (s₁.setTop (mkF m 1 #[.val (.int i0), .val (.int i1), .val (.int i2), .unset, .unset, .unset] [(.int i0)])) _
    refine X0.ldcInt hx hown (mvT hZ (hw _ (List.mem_of_getElem? (i := 0) rfl))) (g := (mkF m 1 #[.val (.int i0), .val (.int i1), .val (.int i2), .unset, .unset, .unset] [(.int i0)])) rfl (hb hby at_1) _ ?_
    show Steps p.tables e below (s₁.setTop (mkF m 3 #[.val (.int i0), .val (.int i1), .val (.int i2), .unset, .unset, .unset] [(.int (2147483647 : Int32)), (.int i0)])) _
    refine XS.iand X0.here hx rfl (hb hby at_3) rfl ?_
    show Steps p.tables e below (s₁.setTop (mkF m 4 #[.val (.int i0), .val (.int i1), .val (.int i2), .unset, .unset, .unset] [(.int (i0 &&& (2147483647 : Int32)))])) _
    refine XS.bipush X0.here hx rfl (hb hby at_4) ?_
    show Steps p.tables e below (s₁.setTop (mkF m 6 #[.val (.int i0), .val (.int i1), .val (.int i2), .unset, .unset, .unset] [(.int (9 : Int32)), (.int (i0 &&& (2147483647 : Int32)))])) _
    refine iremM (g := (mkF m 6 #[.val (.int i0), .val (.int i1), .val (.int i2), .unset, .unset, .unset] [(.int (9 : Int32)), (.int (i0 &&& (2147483647 : Int32)))])) X0 hx rfl (hb hby at_6) rfl (by decide) ?_
    show Steps p.tables e below (s₁.setTop (mkF m 7 #[.val (.int i0), .val (.int i1), .val (.int i2), .unset, .unset, .unset] [(.int ((i0 &&& (2147483647 : Int32)) % (9 : Int32)))])) _
    rw [hk]
    show Steps p.tables e below (s₁.setTop (mkF m 7 #[.val (.int i0), .val (.int i1), .val (.int i2), .unset, .unset, .unset] [(.int (5 : Int32))])) _
    refine XS.istoreN X0.here hx rfl (hb hby at_7) rfl (l' := #[.val (.int i0), .val (.int i1), .val (.int i2), .val (.int (5 : Int32)), .unset, .unset]) rfl ?_
    show Steps p.tables e below (s₁.setTop (mkF m 8 #[.val (.int i0), .val (.int i1), .val (.int i2), .val (.int (5 : Int32)), .unset, .unset] [])) _
    refine XS.iloadN X0.here hx rfl (hb hby at_8) rfl ?_
    show Steps p.tables e below (s₁.setTop (mkF m 9 #[.val (.int i0), .val (.int i1), .val (.int i2), .val (.int (5 : Int32)), .unset, .unset] [(.int i1)])) _
    refine XS.iconst X0.here hx rfl (hb hby at_9) ?_
    show Steps p.tables e below (s₁.setTop (mkF m 10 #[.val (.int i0), .val (.int i1), .val (.int i2), .val (.int (5 : Int32)), .unset, .unset] [(.int (1 : Int32)), (.int i1)])) _
    refine XS.iand X0.here hx rfl (hb hby at_10) rfl ?_
    show Steps p.tables e below (s₁.setTop (mkF m 11 #[.val (.int i0), .val (.int i1), .val (.int i2), .val (.int (5 : Int32)), .unset, .unset] [(.int (i1 &&& (1 : Int32)))])) _
    rw [hm]
    show Steps p.tables e below (s₁.setTop (mkF m 11 #[.val (.int i0), .val (.int i1), .val (.int i2), .val (.int (5 : Int32)), .unset, .unset] [(.int (1 : Int32))])) _
    refine XS.ifNo X0.here hx rfl (hb hby at_11) rfl ((if0 _ _).trans (feq (by decide : ¬ ((1 : Int32) = (0 : Int32)))).1) ?_
    show Steps p.tables e below (s₁.setTop (mkF m 14 #[.val (.int i0), .val (.int i1), .val (.int i2), .val (.int (5 : Int32)), .unset, .unset] [])) _
    refine XS.iloadN X0.here hx rfl (hb hby at_14) rfl ?_
    show Steps p.tables e below (s₁.setTop (mkF m 15 #[.val (.int i0), .val (.int i1), .val (.int i2), .val (.int (5 : Int32)), .unset, .unset] [(.int i1)])) _
    refine XS.iconst X0.here hx rfl (hb hby at_15) ?_
    show Steps p.tables e below (s₁.setTop (mkF m 16 #[.val (.int i0), .val (.int i1), .val (.int i2), .val (.int (5 : Int32)), .unset, .unset] [(.int (1 : Int32)), (.int i1)])) _
    refine XS.ishr X0.here hx rfl (hb hby at_16) rfl ?_
    show Steps p.tables e below (s₁.setTop (mkF m 17 #[.val (.int i0), .val (.int i1), .val (.int i2), .val (.int (5 : Int32)), .unset, .unset] [(.int (i1 >>> ((1 : Int32) &&& 31)))])) _
    refine XS.bipush X0.here hx rfl (hb hby at_17) ?_
    show Steps p.tables e below (s₁.setTop (mkF m 19 #[.val (.int i0), .val (.int i1), .val (.int i2), .val (.int (5 : Int32)), .unset, .unset] [(.int (7 : Int32)), (.int (i1 >>> ((1 : Int32) &&& 31)))])) _
    refine XS.iand X0.here hx rfl (hb hby at_19) rfl ?_
    show Steps p.tables e below (s₁.setTop (mkF m 20 #[.val (.int i0), .val (.int i1), .val (.int i2), .val (.int (5 : Int32)), .unset, .unset] [(.int ((i1 >>> ((1 : Int32) &&& 31)) &&& (7 : Int32)))])) _
    refine XS.iconst X0.here hx rfl (hb hby at_20) ?_
    show Steps p.tables e below (s₁.setTop (mkF m 21 #[.val (.int i0), .val (.int i1), .val (.int i2), .val (.int (5 : Int32)), .unset, .unset] [(.int (2 : Int32)), (.int ((i1 >>> ((1 : Int32) &&& 31)) &&& (7 : Int32)))])) _
    refine XS.isub X0.here hx rfl (hb hby at_21) rfl ?_
    show Steps p.tables e below (s₁.setTop (mkF m 22 #[.val (.int i0), .val (.int i1), .val (.int i2), .val (.int (5 : Int32)), .unset, .unset] [(.int (((i1 >>> ((1 : Int32) &&& 31)) &&& (7 : Int32)) - (2 : Int32)))])) _
    refine XS.goto X0.here hx rfl (pc0 := 22) (pc' := 26) rfl (hb hby at_22) (by decide) (by decide) ?_
    show Steps p.tables e below (s₁.setTop (mkF m 26 #[.val (.int i0), .val (.int i1), .val (.int i2), .val (.int (5 : Int32)), .unset, .unset] [(.int (((i1 >>> ((1 : Int32) &&& 31)) &&& (7 : Int32)) - (2 : Int32)))])) _
    refine XS.istore X0.here hx rfl (hb hby at_26) rfl (l' := #[.val (.int i0), .val (.int i1), .val (.int i2), .val (.int (5 : Int32)), .val (.int (((i1 >>> ((1 : Int32) &&& 31)) &&& (7 : Int32)) - (2 : Int32))), .unset]) rfl ?_
    show Steps p.tables e below (s₁.setTop (mkF m 28 #[.val (.int i0), .val (.int i1), .val (.int i2), .val (.int (5 : Int32)), .val (.int (((i1 >>> ((1 : Int32) &&& 31)) &&& (7 : Int32)) - (2 : Int32))), .unset] [])) _
    refine XS.iloadN X0.here hx rfl (hb hby at_28) rfl ?_
    show Steps p.tables e below (s₁.setTop (mkF m 29 #[.val (.int i0), .val (.int i1), .val (.int i2), .val (.int (5 : Int32)), .val (.int (((i1 >>> ((1 : Int32) &&& 31)) &&& (7 : Int32)) - (2 : Int32))), .unset] [(.int (5 : Int32))])) _
    refine st1 _ ?_
    show Steps p.tables e below (T1.setTop (mkF m 32 #[.val (.int i0), .val (.int i1), .val (.int i2), .val (.int (5 : Int32)), .val (.int (((i1 >>> ((1 : Int32) &&& 31)) &&& (7 : Int32)) - (2 : Int32))), .unset] [(.ref r8)])) _
    refine XS.astore X1.here hx rfl (hb hby at_32) rfl rfl (l' := #[.val (.int i0), .val (.int i1), .val (.int i2), .val (.int (5 : Int32)), .val (.int (((i1 >>> ((1 : Int32) &&& 31)) &&& (7 : Int32)) - (2 : Int32))), .val (.ref r8)]) rfl ?_
    show Steps p.tables e below (T1.setTop (mkF m 34 #[.val (.int i0), .val (.int i1), .val (.int i2), .val (.int (5 : Int32)), .val (.int (((i1 >>> ((1 : Int32) &&& 31)) &&& (7 : Int32)) - (2 : Int32))), .val (.ref r8)] [])) _
    refine XS.aload X1.here hx rfl (hb hby at_34) rfl rfl ?_
    show Steps p.tables e below (T1.setTop (mkF m 36 #[.val (.int i0), .val (.int i1), .val (.int i2), .val (.int (5 : Int32)), .val (.int (((i1 >>> ((1 : Int32) &&& 31)) &&& (7 : Int32)) - (2 : Int32))), .val (.ref r8)] [(.ref r8)])) _
    refine XS.iload X1.here hx rfl (hb hby at_36) rfl ?_
    show Steps p.tables e below (T1.setTop (mkF m 38 #[.val (.int i0), .val (.int i1), .val (.int i2), .val (.int (5 : Int32)), .val (.int (((i1 >>> ((1 : Int32) &&& 31)) &&& (7 : Int32)) - (2 : Int32))), .val (.ref r8)] [(.int (((i1 >>> ((1 : Int32) &&& 31)) &&& (7 : Int32)) - (2 : Int32))), (.ref r8)])) _
    refine st2.trans ?_
    show Steps p.tables e below (T2.setTop (mkF m 41 #[.val (.int i0), .val (.int i1), .val (.int i2), .val (.int (5 : Int32)), .val (.int (((i1 >>> ((1 : Int32) &&& 31)) &&& (7 : Int32)) - (2 : Int32))), .val (.ref r8)] [(.int (0 : Int32))])) _
    refine XS.iloadN X2.here hx rfl (hb hby at_41) rfl ?_
    show Steps p.tables e below (T2.setTop (mkF m 42 #[.val (.int i0), .val (.int i1), .val (.int i2), .val (.int (5 : Int32)), .val (.int (((i1 >>> ((1 : Int32) &&& 31)) &&& (7 : Int32)) - (2 : Int32))), .val (.ref r8)] [(.int (5 : Int32)), (.int (0 : Int32))])) _
    refine XS.iload X2.here hx rfl (hb hby at_42) rfl ?_
    show Steps p.tables e below (T2.setTop (mkF m 44 #[.val (.int i0), .val (.int i1), .val (.int i2), .val (.int (5 : Int32)), .val (.int (((i1 >>> ((1 : Int32) &&& 31)) &&& (7 : Int32)) - (2 : Int32))), .val (.ref r8)] [(.int (((i1 >>> ((1 : Int32) &&& 31)) &&& (7 : Int32)) - (2 : Int32))), (.int (5 : Int32)), (.int (0 : Int32))])) _
    refine st3 _ ?_
    show Steps p.tables e below (T3.setTop (mkF m 47 #[.val (.int i0), .val (.int i1), .val (.int i2), .val (.int (5 : Int32)), .val (.int (((i1 >>> ((1 : Int32) &&& 31)) &&& (7 : Int32)) - (2 : Int32))), .val (.ref r8)] [(.int (0 : Int32)), (.int (0 : Int32))])) _
    refine XS.icmpNo X3.here hx rfl (hb hby at_47) rfl (teq (by decide : (0 : Int32) = (0 : Int32))).2 ?_
    show Steps p.tables e below (T3.setTop (mkF m 50 #[.val (.int i0), .val (.int i1), .val (.int i2), .val (.int (5 : Int32)), .val (.int (((i1 >>> ((1 : Int32) &&& 31)) &&& (7 : Int32)) - (2 : Int32))), .val (.ref r8)] [])) _
    refine XS.iconst X3.here hx rfl (hb hby at_50) ?_
    show Steps p.tables e below (T3.setTop (mkF m 51 #[.val (.int i0), .val (.int i1), .val (.int i2), .val (.int (5 : Int32)), .val (.int (((i1 >>> ((1 : Int32) &&& 31)) &&& (7 : Int32)) - (2 : Int32))), .val (.ref r8)] [(.int (1 : Int32))])) _
    refine XS.goto X3.here hx rfl (pc0 := 51) (pc' := 55) rfl (hb hby at_51) (by decide) (by decide) ?_
    show Steps p.tables e below (T3.setTop (mkF m 55 #[.val (.int i0), .val (.int i1), .val (.int i2), .val (.int (5 : Int32)), .val (.int (((i1 >>> ((1 : Int32) &&& 31)) &&& (7 : Int32)) - (2 : Int32))), .val (.ref r8)] [(.int (1 : Int32))])) _
    exact retN X3 hx (t := .boolean) Bd.returns (by simp) (hb hby at_55) hr
  · exact ⟨rfl, N3, e3⟩
theorem own_d1_53 : decode method_2_code 53 = .ok (.iload_n 0, 1) := by decide +kernel
theorem own_d1_54 : decode method_2_code 54 = .ok (.bipush 6, 2) := by decide +kernel
theorem own_d1_56 : decode method_2_code 56 = .ok (.if_icmp .ne 7, 3) := by decide +kernel
theorem own_d1_59 : decode method_2_code 59 = .ok (.getstatic 28, 3) := by decide +kernel
theorem own_d1_62 : decode method_2_code 62 = .ok (.areturn, 1) := by decide +kernel
set_option maxRecDepth 65536 in
set_option maxHeartbeats 40000000 in
theorem own_r1_48 (l : Launch) (Z : State) (a0 : Array Value) (hw : ∀ d ∈ tables_1, d.before a0 Z = true) (ws : List Jvm.Cond) (r0 : Addr) (r1 : Addr) (r2 : Addr) (r3 : Addr) (r4 : Addr) (r5 : Addr) (r6 : Addr) (r7 : Addr) (r8 : Addr) (r0_c : Addr) (cl_r0_c : Cell) (r1_c : Addr) (cl_r1_c : Cell) (r2_c : Addr) (cl_r2_c : Cell) (r3_c : Addr) (cl_r3_c : Cell) (r4_c : Addr) (cl_r4_c : Cell) (r5_c : Addr) (cl_r5_c : Cell) (r6_c : Addr) (cl_r6_c : Cell) (r7_c : Addr) (cl_r7_c : Cell) (r8_c : Addr) (cl_r8_c : Cell) (h0 : Heap) (n0 : Nat) (Z0 : n0 ≤ h0.size) (F : own_W Z h0 r0 r1 r2 r3 r4 r5 r6 r7 r8 r0_c cl_r0_c r1_c cl_r1_c r2_c cl_r2_c r3_c cl_r3_c r4_c cl_r4_c r5_c cl_r5_c r6_c cl_r6_c r7_c cl_r7_c r8_c cl_r8_c)   :
    MetFree l (⟨"com/example/urbana/urbana/protocol/CommandTakesPinLaw", "pick", "(I)Lcom/example/urbana/urbana/protocol/Command;"⟩ : MethodName) (head1 (Jvm.Cond.code (⟨"com/example/urbana/urbana/protocol/CommandTakesPinLaw", "pick", "(I)Lcom/example/urbana/urbana/protocol/Command;"⟩ : MethodName) method_2_code 1 (some (.object "com/example/urbana/urbana/protocol/Command")) :: ws) ({ frames := 0, cells := 0, slots := 0, locals := 0 } : Room)) (fun a U => a = #[(.int (6 : Int32))] ∧ Z.Warmed39 U.vm ∧ U.heap = h0) (fun _ _ _ _ _ => True) (fun _ U o U' => ∃ v L, o = .returned v ∧ own_Q (.ref r4) h0 n0 v U'.heap L ∧ FrameEnd U o U' L ({ frames := 0, cells := 0, slots := 0, locals := 0 } : Room).cells ({ frames := 0, cells := 0, slots := 0, locals := 0 } : Room).slots) := by
  obtain ⟨S_r0, E_r0, S_r1, E_r1, S_r2, E_r2, S_r3, E_r3, S_r4, E_r4, S_r5, E_r5, S_r6, E_r6, S_r7, E_r7, S_r8, E_r8, F_r0_counts, Ar_r0_c, F_r1_counts, Ar_r1_c, F_r2_counts, Ar_r2_c, F_r3_counts, Ar_r3_c, F_r4_counts, Ar_r4_c, F_r5_counts, Ar_r5_c, F_r6_counts, Ar_r6_c, F_r7_counts, Ar_r7_c, F_r8_counts, Ar_r8_c, Sz_r0_c, El_r0_c_0, Sz_r1_c, El_r1_c_0, El_r1_c_1, Sz_r2_c, El_r2_c_0, Sz_r3_c, Sz_r4_c, Sz_r5_c, Sz_r6_c, Sz_r7_c, Sz_r8_c⟩ := id F
  refine MetFree.of_bodySF (plainFor_of_name own_pn_CommandTakesPinLaw) hisR ?_
  intro p e s m args below meth c s₁ Bd hml0 hP hK
  obtain ⟨rfl, hZ, hh⟩ := hP
  have hx := Bd.exec
  have hby := Bd.bytes
  have hml : c.maxLocals = 1 := hml0
  have hown : s.vm.findClass "com/example/urbana/urbana/protocol/CommandTakesPinLaw" = some m.cls := findClass_of_methodNamed Bd.named
  have X0 : Stand p l e ({ frames := 0, cells := 0, slots := 0, locals := 0 } : Room) s m #[(.int (6 : Int32))] below meth c s₁ [] 0 0 := Stand.of_body Bd
  have e0 : s₁.heap = h0 := by rw [← hh, Bd.state]; rfl
  have N0 := Fr.nil n0
  have pre0 : ∀ t, Steps p.tables e below (s₁.setTop (mkF m 0 #[.val (.int (6 : Int32))] [])) t → Steps p.tables e below (s₁.setTop (entryFrame m #[(.int (6 : Int32))] 1)) t := fun t k => castTop (own_ef1_I m (6 : Int32)) k
  obtain ⟨T1, X1, e1, st1⟩ := getS2 X0 hx hZ hown (host := "") (Or.inl (hw _ (List.mem_of_getElem? (i := 24) rfl))) Via.refl e0 S_r4 (g := (mkF m 59 #[.val (.int (6 : Int32))] [])) rfl (hb hby own_d1_59)
  obtain ⟨fs, hr, hrun, hended, hW, hsame⟩ := X1.leave (v := some (.ref r4)) (fun h => by rw [Bd.returns] at h; cases h)
  refine ⟨_, _, pre0 _ ?_, hrun, hended, _, _, rfl, ?_, ⟨_, rfl⟩, hW, hsame.mono (by decide) (by decide)⟩
  · show Steps p.tables e below (s₁.setTop (mkF m 0 #[.val (.int (6 : Int32))] [])) _
    refine XS.iloadN X0.here hx rfl (hb hby own_d1_0) rfl ?_
    show Steps p.tables e below (s₁.setTop (mkF m 1 #[.val (.int (6 : Int32))] [(.int (6 : Int32))])) _
    refine XS.ifYes X0.here hx rfl (pc0 := 1) (pc' := 8) rfl (hb hby own_d1_1) rfl ((if0 _ _).trans (feq (by decide : ¬ ((6 : Int32) = (0 : Int32)))).2) (by decide) (by decide) ?_
    show Steps p.tables e below (s₁.setTop (mkF m 8 #[.val (.int (6 : Int32))] [])) _
    refine XS.iloadN X0.here hx rfl (hb hby own_d1_8) rfl ?_
    show Steps p.tables e below (s₁.setTop (mkF m 9 #[.val (.int (6 : Int32))] [(.int (6 : Int32))])) _
    refine XS.iconst X0.here hx rfl (hb hby own_d1_9) ?_
    show Steps p.tables e below (s₁.setTop (mkF m 10 #[.val (.int (6 : Int32))] [(.int (1 : Int32)), (.int (6 : Int32))])) _
    refine XS.icmpYes X0.here hx rfl (pc0 := 10) (pc' := 17) rfl (hb hby own_d1_10) rfl (feq (by decide : ¬ ((6 : Int32) = (1 : Int32)))).2 (by decide) (by decide) ?_
    show Steps p.tables e below (s₁.setTop (mkF m 17 #[.val (.int (6 : Int32))] [])) _
    refine XS.iloadN X0.here hx rfl (hb hby own_d1_17) rfl ?_
    show Steps p.tables e below (s₁.setTop (mkF m 18 #[.val (.int (6 : Int32))] [(.int (6 : Int32))])) _
    refine XS.iconst X0.here hx rfl (hb hby own_d1_18) ?_
    show Steps p.tables e below (s₁.setTop (mkF m 19 #[.val (.int (6 : Int32))] [(.int (2 : Int32)), (.int (6 : Int32))])) _
    refine XS.icmpYes X0.here hx rfl (pc0 := 19) (pc' := 26) rfl (hb hby own_d1_19) rfl (feq (by decide : ¬ ((6 : Int32) = (2 : Int32)))).2 (by decide) (by decide) ?_
    show Steps p.tables e below (s₁.setTop (mkF m 26 #[.val (.int (6 : Int32))] [])) _
    refine XS.iloadN X0.here hx rfl (hb hby own_d1_26) rfl ?_
    show Steps p.tables e below (s₁.setTop (mkF m 27 #[.val (.int (6 : Int32))] [(.int (6 : Int32))])) _
    refine XS.iconst X0.here hx rfl (hb hby own_d1_27) ?_
    show Steps p.tables e below (s₁.setTop (mkF m 28 #[.val (.int (6 : Int32))] [(.int (3 : Int32)), (.int (6 : Int32))])) _
    refine XS.icmpYes X0.here hx rfl (pc0 := 28) (pc' := 35) rfl (hb hby own_d1_28) rfl (feq (by decide : ¬ ((6 : Int32) = (3 : Int32)))).2 (by decide) (by decide) ?_
    show Steps p.tables e below (s₁.setTop (mkF m 35 #[.val (.int (6 : Int32))] [])) _
    refine XS.iloadN X0.here hx rfl (hb hby own_d1_35) rfl ?_
    show Steps p.tables e below (s₁.setTop (mkF m 36 #[.val (.int (6 : Int32))] [(.int (6 : Int32))])) _
    refine XS.iconst X0.here hx rfl (hb hby own_d1_36) ?_
    show Steps p.tables e below (s₁.setTop (mkF m 37 #[.val (.int (6 : Int32))] [(.int (4 : Int32)), (.int (6 : Int32))])) _
    refine XS.icmpYes X0.here hx rfl (pc0 := 37) (pc' := 44) rfl (hb hby own_d1_37) rfl (feq (by decide : ¬ ((6 : Int32) = (4 : Int32)))).2 (by decide) (by decide) ?_
    show Steps p.tables e below (s₁.setTop (mkF m 44 #[.val (.int (6 : Int32))] [])) _
    refine XS.iloadN X0.here hx rfl (hb hby own_d1_44) rfl ?_
    show Steps p.tables e below (s₁.setTop (mkF m 45 #[.val (.int (6 : Int32))] [(.int (6 : Int32))])) _
    refine XS.iconst X0.here hx rfl (hb hby own_d1_45) ?_
    show Steps p.tables e below (s₁.setTop (mkF m 46 #[.val (.int (6 : Int32))] [(.int (5 : Int32)), (.int (6 : Int32))])) _
    refine XS.icmpYes X0.here hx rfl (pc0 := 46) (pc' := 53) rfl (hb hby own_d1_46) rfl (feq (by decide : ¬ ((6 : Int32) = (5 : Int32)))).2 (by decide) (by decide) ?_
    show Steps p.tables e below (s₁.setTop (mkF m 53 #[.val (.int (6 : Int32))] [])) _
    refine XS.iloadN X0.here hx rfl (hb hby own_d1_53) rfl ?_
    show Steps p.tables e below (s₁.setTop (mkF m 54 #[.val (.int (6 : Int32))] [(.int (6 : Int32))])) _
    refine XS.bipush X0.here hx rfl (hb hby own_d1_54) ?_
    show Steps p.tables e below (s₁.setTop (mkF m 56 #[.val (.int (6 : Int32))] [(.int (6 : Int32)), (.int (6 : Int32))])) _
    refine XS.icmpNo X0.here hx rfl (hb hby own_d1_56) rfl (teq (by decide : (6 : Int32) = (6 : Int32))).2 ?_
    show Steps p.tables e below (s₁.setTop (mkF m 59 #[.val (.int (6 : Int32))] [])) _
    refine st1 _ ?_
    show Steps p.tables e below (T1.setTop (mkF m 62 #[.val (.int (6 : Int32))] [(.ref r4)])) _
    jvm_step X1.here [X1.here.top, hx, (hb hby own_d1_62), X1.method', Bd.returns, Value.isRef, FieldType.isReference]
    first | (intro acts; rw [hr _ acts rfl rfl rfl]) | rw [hr _ _ rfl rfl rfl]
    exact Steps.refl _
  · exact ⟨rfl, N0, e1⟩
set_option maxRecDepth 65536 in
set_option maxHeartbeats 40000000 in
theorem own_r2_49 (l : Launch) (Z : State) (a0 : Array Value) (hw : ∀ d ∈ tables_1, d.before a0 Z = true) (ws : List Jvm.Cond) (r0 : Addr) (r1 : Addr) (r2 : Addr) (r3 : Addr) (r4 : Addr) (r5 : Addr) (r6 : Addr) (r7 : Addr) (r8 : Addr) (r0_c : Addr) (cl_r0_c : Cell) (r1_c : Addr) (cl_r1_c : Cell) (r2_c : Addr) (cl_r2_c : Cell) (r3_c : Addr) (cl_r3_c : Cell) (r4_c : Addr) (cl_r4_c : Cell) (r5_c : Addr) (cl_r5_c : Cell) (r6_c : Addr) (cl_r6_c : Cell) (r7_c : Addr) (cl_r7_c : Cell) (r8_c : Addr) (cl_r8_c : Cell) (h0 : Heap) (n0 : Nat) (Z0 : n0 ≤ h0.size) (F : own_W Z h0 r0 r1 r2 r3 r4 r5 r6 r7 r8 r0_c cl_r0_c r1_c cl_r1_c r2_c cl_r2_c r3_c cl_r3_c r4_c cl_r4_c r5_c cl_r5_c r6_c cl_r6_c r7_c cl_r7_c r8_c cl_r8_c) (q0 : Int32)  :
    MetFree l (⟨"com/example/urbana/urbana/protocol/Command", "takes", "(I)Z"⟩ : MethodName) (head1 (Jvm.Cond.code (⟨"com/example/urbana/urbana/protocol/Command", "takes", "(I)Z"⟩ : MethodName) prog_2_method_8_code 7 (some .boolean) :: ws) ({ frames := 0, cells := 0, slots := 0, locals := 0 } : Room)) (fun a U => a = #[(.ref r4), (.int q0)] ∧ Z.Warmed39 U.vm ∧ U.heap = h0) (fun _ _ _ _ _ => True) (fun _ U o U' => ∃ v L, o = .returned v ∧ own_Q (.int (0 : Int32)) h0 n0 v U'.heap L ∧ FrameEnd U o U' L ({ frames := 0, cells := 0, slots := 0, locals := 0 } : Room).cells ({ frames := 0, cells := 0, slots := 0, locals := 0 } : Room).slots) := by
  obtain ⟨S_r0, E_r0, S_r1, E_r1, S_r2, E_r2, S_r3, E_r3, S_r4, E_r4, S_r5, E_r5, S_r6, E_r6, S_r7, E_r7, S_r8, E_r8, F_r0_counts, Ar_r0_c, F_r1_counts, Ar_r1_c, F_r2_counts, Ar_r2_c, F_r3_counts, Ar_r3_c, F_r4_counts, Ar_r4_c, F_r5_counts, Ar_r5_c, F_r6_counts, Ar_r6_c, F_r7_counts, Ar_r7_c, F_r8_counts, Ar_r8_c, Sz_r0_c, El_r0_c_0, Sz_r1_c, El_r1_c_0, El_r1_c_1, Sz_r2_c, El_r2_c_0, Sz_r3_c, Sz_r4_c, Sz_r5_c, Sz_r6_c, Sz_r7_c, Sz_r8_c⟩ := id F
  refine MetFree.of_bodySF (plainFor_of_name own_pn_Command) hisR ?_
  intro p e s m args below meth c s₁ Bd hml0 hP hK
  obtain ⟨rfl, hZ, hh⟩ := hP
  have hx := Bd.exec
  have hby := Bd.bytes
  have hml : c.maxLocals = 7 := hml0
  have hown : s.vm.findClass "com/example/urbana/urbana/protocol/Command" = some m.cls := findClass_of_methodNamed Bd.named
  have X0 : Stand p l e ({ frames := 0, cells := 0, slots := 0, locals := 0 } : Room) s m #[(.ref r4), (.int q0)] below meth c s₁ [] 0 0 := Stand.of_body Bd
  have e0 : s₁.heap = h0 := by rw [← hh, Bd.state]; rfl
  have N0 := Fr.nil n0
  have pre0 : ∀ t, Steps p.tables e below (s₁.setTop (mkF m 0 #[.val (.ref r4), .val (.int q0), .unset, .unset, .unset, .unset, .unset] [])) t → Steps p.tables e below (s₁.setTop (entryFrame m #[(.ref r4), (.int q0)] 7)) t := fun t k => castTop (own_ef2_RI m r4 q0) k
  obtain ⟨T1, X1, e1, st1⟩ := getF X0 hx hZ hown (host := "") (Or.inl (hw _ (List.mem_of_getElem? (i := 13) rfl))) Via.refl e0 F_r4_counts (g := (mkF m 3 #[.val (.ref r4), .val (.int q0), .val (.int (0 : Int32)), .unset, .unset, .unset, .unset] [(.ref r4)])) rfl rfl (hb hby own_d2_3)
  obtain ⟨fs, hr, hrun, hended, hW, hsame⟩ := X1.leave (v := some (.int (0 : Int32))) (fun h => by rw [Bd.returns] at h; cases h)
  refine ⟨_, _, pre0 _ ?_, hrun, hended, _, _, rfl, ?_, ⟨_, rfl⟩, hW, hsame.mono (by decide) (by decide)⟩
  · show Steps p.tables e below (s₁.setTop (mkF m 0 #[.val (.ref r4), .val (.int q0), .unset, .unset, .unset, .unset, .unset] [])) _
    refine XS.iconst X0.here hx rfl (hb hby own_d2_0) ?_
    show Steps p.tables e below (s₁.setTop (mkF m 1 #[.val (.ref r4), .val (.int q0), .unset, .unset, .unset, .unset, .unset] [(.int (0 : Int32))])) _
    refine XS.istoreN X0.here hx rfl (hb hby own_d2_1) rfl (l' := #[.val (.ref r4), .val (.int q0), .val (.int (0 : Int32)), .unset, .unset, .unset, .unset]) rfl ?_
    show Steps p.tables e below (s₁.setTop (mkF m 2 #[.val (.ref r4), .val (.int q0), .val (.int (0 : Int32)), .unset, .unset, .unset, .unset] [])) _
    refine XS.aloadN X0.here hx rfl (hb hby own_d2_2) rfl rfl ?_
    show Steps p.tables e below (s₁.setTop (mkF m 3 #[.val (.ref r4), .val (.int q0), .val (.int (0 : Int32)), .unset, .unset, .unset, .unset] [(.ref r4)])) _
    refine st1 _ ?_
    show Steps p.tables e below (T1.setTop (mkF m 6 #[.val (.ref r4), .val (.int q0), .val (.int (0 : Int32)), .unset, .unset, .unset, .unset] [(.ref r4_c)])) _
    refine XS.astoreN X1.here hx rfl (hb hby own_d2_6) rfl rfl (l' := #[.val (.ref r4), .val (.int q0), .val (.int (0 : Int32)), .val (.ref r4_c), .unset, .unset, .unset]) rfl ?_
    show Steps p.tables e below (T1.setTop (mkF m 7 #[.val (.ref r4), .val (.int q0), .val (.int (0 : Int32)), .val (.ref r4_c), .unset, .unset, .unset] [])) _
    refine XS.aloadN X1.here hx rfl (hb hby own_d2_7) rfl rfl ?_
    show Steps p.tables e below (T1.setTop (mkF m 8 #[.val (.ref r4), .val (.int q0), .val (.int (0 : Int32)), .val (.ref r4_c), .unset, .unset, .unset] [(.ref r4_c)])) _
    refine X1.arraylength hx (by rw [e1]; exact Ar_r4_c.1) (State.isArrayOf_alike hZ.alike Ar_r4_c.2.1) (g := (mkF m 8 #[.val (.ref r4), .val (.int q0), .val (.int (0 : Int32)), .val (.ref r4_c), .unset, .unset, .unset] [(.ref r4_c)])) rfl rfl (hb hby own_d2_8) _ ?_
    rw [len_of Sz_r4_c (by decide)]
    show Steps p.tables e below (T1.setTop (mkF m 9 #[.val (.ref r4), .val (.int q0), .val (.int (0 : Int32)), .val (.ref r4_c), .unset, .unset, .unset] [(.int (0 : Int32))])) _
    refine XS.istore X1.here hx rfl (hb hby own_d2_9) rfl (l' := #[.val (.ref r4), .val (.int q0), .val (.int (0 : Int32)), .val (.ref r4_c), .val (.int (0 : Int32)), .unset, .unset]) rfl ?_
    show Steps p.tables e below (T1.setTop (mkF m 11 #[.val (.ref r4), .val (.int q0), .val (.int (0 : Int32)), .val (.ref r4_c), .val (.int (0 : Int32)), .unset, .unset] [])) _
    refine XS.iconst X1.here hx rfl (hb hby own_d2_11) ?_
    show Steps p.tables e below (T1.setTop (mkF m 12 #[.val (.ref r4), .val (.int q0), .val (.int (0 : Int32)), .val (.ref r4_c), .val (.int (0 : Int32)), .unset, .unset] [(.int (0 : Int32))])) _
    refine XS.istore X1.here hx rfl (hb hby own_d2_12) rfl (l' := #[.val (.ref r4), .val (.int q0), .val (.int (0 : Int32)), .val (.ref r4_c), .val (.int (0 : Int32)), .val (.int (0 : Int32)), .unset]) rfl ?_
    show Steps p.tables e below (T1.setTop (mkF m 14 #[.val (.ref r4), .val (.int q0), .val (.int (0 : Int32)), .val (.ref r4_c), .val (.int (0 : Int32)), .val (.int (0 : Int32)), .unset] [])) _
    refine XS.iload X1.here hx rfl (hb hby own_d2_14) rfl ?_
    show Steps p.tables e below (T1.setTop (mkF m 16 #[.val (.ref r4), .val (.int q0), .val (.int (0 : Int32)), .val (.ref r4_c), .val (.int (0 : Int32)), .val (.int (0 : Int32)), .unset] [(.int (0 : Int32))])) _
    refine XS.iload X1.here hx rfl (hb hby own_d2_16) rfl ?_
    show Steps p.tables e below (T1.setTop (mkF m 18 #[.val (.ref r4), .val (.int q0), .val (.int (0 : Int32)), .val (.ref r4_c), .val (.int (0 : Int32)), .val (.int (0 : Int32)), .unset] [(.int (0 : Int32)), (.int (0 : Int32))])) _
    refine XS.icmpYes X1.here hx rfl (pc0 := 18) (pc' := 47) rfl (hb hby own_d2_18) rfl (flt (by decide : ¬ ((0 : Int32) < (0 : Int32)))).2.1 (by decide) (by decide) ?_
    show Steps p.tables e below (T1.setTop (mkF m 47 #[.val (.ref r4), .val (.int q0), .val (.int (0 : Int32)), .val (.ref r4_c), .val (.int (0 : Int32)), .val (.int (0 : Int32)), .unset] [])) _
    refine XS.iloadN X1.here hx rfl (hb hby own_d2_47) rfl ?_
    show Steps p.tables e below (T1.setTop (mkF m 48 #[.val (.ref r4), .val (.int q0), .val (.int (0 : Int32)), .val (.ref r4_c), .val (.int (0 : Int32)), .val (.int (0 : Int32)), .unset] [(.int (0 : Int32))])) _
    exact retN X1 hx (t := .boolean) Bd.returns (by simp) (hb hby own_d2_48) hr
  · exact ⟨rfl, N0, e1⟩
set_option maxRecDepth 65536 in
set_option maxHeartbeats 40000000 in
theorem own_r3_50 (l : Launch) (Z : State) (a0 : Array Value) (hw : ∀ d ∈ tables_1, d.before a0 Z = true) (ws : List Jvm.Cond) (r0 : Addr) (r1 : Addr) (r2 : Addr) (r3 : Addr) (r4 : Addr) (r5 : Addr) (r6 : Addr) (r7 : Addr) (r8 : Addr) (r0_c : Addr) (cl_r0_c : Cell) (r1_c : Addr) (cl_r1_c : Cell) (r2_c : Addr) (cl_r2_c : Cell) (r3_c : Addr) (cl_r3_c : Cell) (r4_c : Addr) (cl_r4_c : Cell) (r5_c : Addr) (cl_r5_c : Cell) (r6_c : Addr) (cl_r6_c : Cell) (r7_c : Addr) (cl_r7_c : Cell) (r8_c : Addr) (cl_r8_c : Cell) (h0 : Heap) (n0 : Nat) (Z0 : n0 ≤ h0.size) (F : own_W Z h0 r0 r1 r2 r3 r4 r5 r6 r7 r8 r0_c cl_r0_c r1_c cl_r1_c r2_c cl_r2_c r3_c cl_r3_c r4_c cl_r4_c r5_c cl_r5_c r6_c cl_r6_c r7_c cl_r7_c r8_c cl_r8_c) (q0 : Int32)  :
    MetFree l (⟨"com/example/urbana/urbana/protocol/CommandTakesPinLaw", "expected", "(II)Z"⟩ : MethodName) (head1 (Jvm.Cond.code (⟨"com/example/urbana/urbana/protocol/CommandTakesPinLaw", "expected", "(II)Z"⟩ : MethodName) method_3_code 2 (some .boolean) :: ws) ({ frames := 0, cells := 0, slots := 0, locals := 0 } : Room)) (fun a U => a = #[(.int (6 : Int32)), (.int q0)] ∧ Z.Warmed39 U.vm ∧ U.heap = h0) (fun _ _ _ _ _ => True) (fun _ U o U' => ∃ v L, o = .returned v ∧ own_Q (.int (0 : Int32)) h0 n0 v U'.heap L ∧ FrameEnd U o U' L ({ frames := 0, cells := 0, slots := 0, locals := 0 } : Room).cells ({ frames := 0, cells := 0, slots := 0, locals := 0 } : Room).slots) := by
  obtain ⟨S_r0, E_r0, S_r1, E_r1, S_r2, E_r2, S_r3, E_r3, S_r4, E_r4, S_r5, E_r5, S_r6, E_r6, S_r7, E_r7, S_r8, E_r8, F_r0_counts, Ar_r0_c, F_r1_counts, Ar_r1_c, F_r2_counts, Ar_r2_c, F_r3_counts, Ar_r3_c, F_r4_counts, Ar_r4_c, F_r5_counts, Ar_r5_c, F_r6_counts, Ar_r6_c, F_r7_counts, Ar_r7_c, F_r8_counts, Ar_r8_c, Sz_r0_c, El_r0_c_0, Sz_r1_c, El_r1_c_0, El_r1_c_1, Sz_r2_c, El_r2_c_0, Sz_r3_c, Sz_r4_c, Sz_r5_c, Sz_r6_c, Sz_r7_c, Sz_r8_c⟩ := id F
  refine MetFree.of_bodySF (plainFor_of_name own_pn_CommandTakesPinLaw) hisR ?_
  intro p e s m args below meth c s₁ Bd hml0 hP hK
  obtain ⟨rfl, hZ, hh⟩ := hP
  have hx := Bd.exec
  have hby := Bd.bytes
  have hml : c.maxLocals = 2 := hml0
  have hown : s.vm.findClass "com/example/urbana/urbana/protocol/CommandTakesPinLaw" = some m.cls := findClass_of_methodNamed Bd.named
  have X0 : Stand p l e ({ frames := 0, cells := 0, slots := 0, locals := 0 } : Room) s m #[(.int (6 : Int32)), (.int q0)] below meth c s₁ [] 0 0 := Stand.of_body Bd
  have e0 : s₁.heap = h0 := by rw [← hh, Bd.state]; rfl
  have N0 := Fr.nil n0
  have pre0 : ∀ t, Steps p.tables e below (s₁.setTop (mkF m 0 #[.val (.int (6 : Int32)), .val (.int q0)] [])) t → Steps p.tables e below (s₁.setTop (entryFrame m #[(.int (6 : Int32)), (.int q0)] 2)) t := fun t k => castTop (own_ef3_II m (6 : Int32) q0) k
  obtain ⟨fs, hr, hrun, hended, hW, hsame⟩ := X0.leave (v := some (.int (0 : Int32))) (fun h => by rw [Bd.returns] at h; cases h)
  refine ⟨_, _, pre0 _ ?_, hrun, hended, _, _, rfl, ?_, ⟨_, rfl⟩, hW, hsame.mono (by decide) (by decide)⟩
  · show Steps p.tables e below (s₁.setTop (mkF m 0 #[.val (.int (6 : Int32)), .val (.int q0)] [])) _
    refine XS.iloadN X0.here hx rfl (hb hby own_d3_0) rfl ?_
    show Steps p.tables e below (s₁.setTop (mkF m 1 #[.val (.int (6 : Int32)), .val (.int q0)] [(.int (6 : Int32))])) _
    refine XS.ifYes X0.here hx rfl (pc0 := 1) (pc' := 15) rfl (hb hby own_d3_1) rfl ((if0 _ _).trans (feq (by decide : ¬ ((6 : Int32) = (0 : Int32)))).2) (by decide) (by decide) ?_
    show Steps p.tables e below (s₁.setTop (mkF m 15 #[.val (.int (6 : Int32)), .val (.int q0)] [])) _
    refine XS.iloadN X0.here hx rfl (hb hby own_d3_15) rfl ?_
    show Steps p.tables e below (s₁.setTop (mkF m 16 #[.val (.int (6 : Int32)), .val (.int q0)] [(.int (6 : Int32))])) _
    refine XS.iconst X0.here hx rfl (hb hby own_d3_16) ?_
    show Steps p.tables e below (s₁.setTop (mkF m 17 #[.val (.int (6 : Int32)), .val (.int q0)] [(.int (1 : Int32)), (.int (6 : Int32))])) _
    refine XS.icmpYes X0.here hx rfl (pc0 := 17) (pc' := 35) rfl (hb hby own_d3_17) rfl (feq (by decide : ¬ ((6 : Int32) = (1 : Int32)))).2 (by decide) (by decide) ?_
    show Steps p.tables e below (s₁.setTop (mkF m 35 #[.val (.int (6 : Int32)), .val (.int q0)] [])) _
    refine XS.iloadN X0.here hx rfl (hb hby own_d3_35) rfl ?_
    show Steps p.tables e below (s₁.setTop (mkF m 36 #[.val (.int (6 : Int32)), .val (.int q0)] [(.int (6 : Int32))])) _
    refine XS.iconst X0.here hx rfl (hb hby own_d3_36) ?_
    show Steps p.tables e below (s₁.setTop (mkF m 37 #[.val (.int (6 : Int32)), .val (.int q0)] [(.int (2 : Int32)), (.int (6 : Int32))])) _
    refine XS.icmpYes X0.here hx rfl (pc0 := 37) (pc' := 51) rfl (hb hby own_d3_37) rfl (feq (by decide : ¬ ((6 : Int32) = (2 : Int32)))).2 (by decide) (by decide) ?_
    show Steps p.tables e below (s₁.setTop (mkF m 51 #[.val (.int (6 : Int32)), .val (.int q0)] [])) _
    refine XS.iconst X0.here hx rfl (hb hby own_d3_51) ?_
    show Steps p.tables e below (s₁.setTop (mkF m 52 #[.val (.int (6 : Int32)), .val (.int q0)] [(.int (0 : Int32))])) _
    exact retN X0 hx (t := .boolean) Bd.returns (by simp) (hb hby own_d3_52) hr
  · exact ⟨rfl, N0, e0⟩
set_option maxRecDepth 65536 in
set_option maxHeartbeats 40000000 in
theorem own_r0_k6m0c0 (l : Launch) (Z : State) (a0 : Array Value) (hw : ∀ d ∈ tables_1, d.before a0 Z = true) (ws : List Jvm.Cond) (r0 : Addr) (r1 : Addr) (r2 : Addr) (r3 : Addr) (r4 : Addr) (r5 : Addr) (r6 : Addr) (r7 : Addr) (r8 : Addr) (r0_c : Addr) (cl_r0_c : Cell) (r1_c : Addr) (cl_r1_c : Cell) (r2_c : Addr) (cl_r2_c : Cell) (r3_c : Addr) (cl_r3_c : Cell) (r4_c : Addr) (cl_r4_c : Cell) (r5_c : Addr) (cl_r5_c : Cell) (r6_c : Addr) (cl_r6_c : Cell) (r7_c : Addr) (cl_r7_c : Cell) (r8_c : Addr) (cl_r8_c : Cell) (h0 : Heap) (n0 : Nat) (Z0 : n0 ≤ h0.size) (F : own_W Z h0 r0 r1 r2 r3 r4 r5 r6 r7 r8 r0_c cl_r0_c r1_c cl_r1_c r2_c cl_r2_c r3_c cl_r3_c r4_c cl_r4_c r5_c cl_r5_c r6_c cl_r6_c r7_c cl_r7_c r8_c cl_r8_c) (i0 : Int32) (i1 : Int32) (i2 : Int32) (hk : ((i0 &&& (2147483647 : Int32)) % (9 : Int32)) = (6 : Int32)) (hm : (i1 &&& (1 : Int32)) = (0 : Int32)) :
    MetFree l x (head1 (Jvm.Cond.code x code maxLocals ret :: ws) room_1) (fun a U => a = #[(.int i0), (.int i1), (.int i2)] ∧ Z.Warmed39 U.vm ∧ U.heap = h0) (fun _ _ _ _ _ => True) (fun _ U o U' => ∃ v L, o = .returned v ∧ own_Q (.int (1 : Int32)) h0 n0 v U'.heap L ∧ FrameEnd U o U' L room_1.cells room_1.slots) := by
  obtain ⟨S_r0, E_r0, S_r1, E_r1, S_r2, E_r2, S_r3, E_r3, S_r4, E_r4, S_r5, E_r5, S_r6, E_r6, S_r7, E_r7, S_r8, E_r8, F_r0_counts, Ar_r0_c, F_r1_counts, Ar_r1_c, F_r2_counts, Ar_r2_c, F_r3_counts, Ar_r3_c, F_r4_counts, Ar_r4_c, F_r5_counts, Ar_r5_c, F_r6_counts, Ar_r6_c, F_r7_counts, Ar_r7_c, F_r8_counts, Ar_r8_c, Sz_r0_c, El_r0_c_0, Sz_r1_c, El_r1_c_0, El_r1_c_1, Sz_r2_c, El_r2_c_0, Sz_r3_c, Sz_r4_c, Sz_r5_c, Sz_r6_c, Sz_r7_c, Sz_r8_c⟩ := id F
  refine MetFree.of_bodySF (plainFor_of_name own_pn_CommandTakesPinLaw) hisR ?_
  intro p e s m args below meth c s₁ Bd hml0 hP hK
  obtain ⟨rfl, hZ, hh⟩ := hP
  have hx := Bd.exec
  have hby := Bd.bytes
  have hml : c.maxLocals = 6 := hml0
  have hown : s.vm.findClass "com/example/urbana/urbana/protocol/CommandTakesPinLaw" = some m.cls := findClass_of_methodNamed Bd.named
  have X0 : Stand p l e room_1 s m #[(.int i0), (.int i1), (.int i2)] below meth c s₁ [] 0 0 := Stand.of_body Bd
  have e0 : s₁.heap = h0 := by rw [← hh, Bd.state]; rfl
  have N0 := Fr.nil n0
  have pre0 : ∀ t, Steps p.tables e below (s₁.setTop (mkF m 0 #[.val (.int i0), .val (.int i1), .val (.int i2), .unset, .unset, .unset] [])) t → Steps p.tables e below (s₁.setTop (entryFrame m #[(.int i0), (.int i1), (.int i2)] maxLocals)) t := fun t k => castTop (own_ef0_III m i0 i1 i2) k
  obtain ⟨_, _, ⟨T1, L1, k1, n1⟩, -, X1, ⟨Lc1, hQ1, l1, y1, z1⟩, st1⟩ := Jvm.LawKit.callS X0 hx (y := (⟨"com/example/urbana/urbana/protocol/CommandTakesPinLaw", "pick", "(I)Lcom/example/urbana/urbana/protocol/Command;"⟩ : MethodName)) hown (mvT hZ (hw _ (List.mem_of_getElem? (i := 1) rfl))) (mvT hZ (hw _ (List.mem_of_getElem? (i := 2) rfl))) (mvT hZ (hw _ (List.mem_of_getElem? (i := 3) rfl))) (mvT hZ (hw _ (List.mem_of_getElem? (i := 4) rfl))) (by decide) (backOf (W := 0) (own_r1_48 l Z a0 hw [] r0 r1 r2 r3 r4 r5 r6 r7 r8 r0_c cl_r0_c r1_c cl_r1_c r2_c cl_r2_c r3_c cl_r3_c r4_c cl_r4_c r5_c cl_r5_c r6_c cl_r6_c r7_c cl_r7_c r8_c cl_r8_c h0 n0 Z0 F ) hZ (hw _ (List.mem_of_getElem? (i := 4) rfl)) (hw _ (List.mem_of_getElem? (i := 3) rfl)) (by decide) (by decide)) (g := (mkF m 29 #[.val (.int i0), .val (.int i1), .val (.int i2), .val (.int (6 : Int32)), .val (.int i2), .unset] [(.int (6 : Int32))])) rfl (by rw [hml]; rfl) (argsL := [(.int (6 : Int32))]) (rest := []) (lenOf own_pd0 rfl) rfl (by show 2 * 0 + _ ≤ _; exact Nat.le_of_eq rfl) (hb hby at_29) (fun _ _ => ⟨rfl, e0, (by decide : 0 + 0 ≤ _), (by decide : 0 + 0 ≤ _)⟩)
  dsimp only [Pt.U, Pt.locs, Pt.cells, Pt.slots] at X1 l1 y1 z1 st1 hQ1
  subst l1 y1 z1
  obtain ⟨rfl, N1q, e1⟩ := hQ1
  have N1 := Fr.app N0 N1q
  obtain ⟨cq2, kq2, q2a, q2b, q2c⟩ := isOf hZ e1 E_r4
  obtain ⟨_, _, ⟨T2, L2, k2, n2⟩, -, X2, ⟨Lc2, hQ2, l2, y2, z2⟩, st2⟩ := X1.virtualBack hx (y := (⟨"com/example/urbana/urbana/protocol/Command", "takes", "(I)Z"⟩ : MethodName)) (z := (⟨"com/example/urbana/urbana/protocol/Command", "takes", "(I)Z"⟩ : MethodName)) hown (mvT hZ (hw _ (List.mem_of_getElem? (i := 8) rfl))) (mvT hZ (hw _ (List.mem_of_getElem? (i := 9) rfl))) (notFace_of_selects (args := #[]) (mvT hZ (hw _ (List.mem_of_getElem? (i := 11) rfl)))) (mvT hZ (hw _ (List.mem_of_getElem? (i := 11) rfl))) (mvT hZ (hw _ (List.mem_of_getElem? (i := 10) rfl))) (by decide) (backOf (W := 0) (own_r2_49 l Z a0 hw [] r0 r1 r2 r3 r4 r5 r6 r7 r8 r0_c cl_r0_c r1_c cl_r1_c r2_c cl_r2_c r3_c cl_r3_c r4_c cl_r4_c r5_c cl_r5_c r6_c cl_r6_c r7_c cl_r7_c r8_c cl_r8_c h0 n0 Z0 F i2) hZ (hw _ (List.mem_of_getElem? (i := 12) rfl)) (hw _ (List.mem_of_getElem? (i := 6) rfl)) (by decide) (by decide)) q2a q2c (g := (mkF m 38 #[.val (.int i0), .val (.int i1), .val (.int i2), .val (.int (6 : Int32)), .val (.int i2), .val (.ref r4)] [(.int i2), (.ref r4)])) rfl (by rw [hml]; rfl) (Steps.refl _) (argsL := [(.int i2)]) (rest := []) (lenOf own_pd1 rfl) rfl (by show 2 * 0 + _ ≤ _; exact Nat.le_of_eq rfl) (hb hby at_38) (fun _ _ => ⟨rfl, e1, (by decide : 0 + 0 ≤ _), (by decide : 0 + 0 ≤ _)⟩)
  dsimp only [Pt.U, Pt.locs, Pt.cells, Pt.slots] at X2 l2 y2 z2 st2 hQ2
  subst l2 y2 z2
  obtain ⟨rfl, N2q, e2⟩ := hQ2
  have N2 := Fr.app N1 N2q
  obtain ⟨_, _, ⟨T3, L3, k3, n3⟩, -, X3, ⟨Lc3, hQ3, l3, y3, z3⟩, st3⟩ := Jvm.LawKit.callS X2 hx (y := (⟨"com/example/urbana/urbana/protocol/CommandTakesPinLaw", "expected", "(II)Z"⟩ : MethodName)) hown (mvT hZ (hw _ (List.mem_of_getElem? (i := 15) rfl))) (mvT hZ (hw _ (List.mem_of_getElem? (i := 16) rfl))) (mvT hZ (hw _ (List.mem_of_getElem? (i := 3) rfl))) (mvT hZ (hw _ (List.mem_of_getElem? (i := 17) rfl))) (by decide) (backOf (W := 1) (own_r3_50 l Z a0 hw [] r0 r1 r2 r3 r4 r5 r6 r7 r8 r0_c cl_r0_c r1_c cl_r1_c r2_c cl_r2_c r3_c cl_r3_c r4_c cl_r4_c r5_c cl_r5_c r6_c cl_r6_c r7_c cl_r7_c r8_c cl_r8_c h0 n0 Z0 F i2) hZ (hw _ (List.mem_of_getElem? (i := 17) rfl)) (hw _ (List.mem_of_getElem? (i := 3) rfl)) (by decide) (by decide)) (g := (mkF m 44 #[.val (.int i0), .val (.int i1), .val (.int i2), .val (.int (6 : Int32)), .val (.int i2), .val (.ref r4)] [(.int i2), (.int (6 : Int32)), (.int (0 : Int32))])) rfl (by rw [hml]; rfl) (argsL := [(.int (6 : Int32)), (.int i2)]) (rest := [(.int (0 : Int32))]) (lenOf own_pd2 rfl) rfl (by show 2 * 0 + _ ≤ _; exact Nat.le_of_eq rfl) (hb hby at_44) (fun _ _ => ⟨rfl, e2, (by decide : 0 + 0 ≤ _), (by decide : 0 + 0 ≤ _)⟩)
  dsimp only [Pt.U, Pt.locs, Pt.cells, Pt.slots] at X3 l3 y3 z3 st3 hQ3
  subst l3 y3 z3
  obtain ⟨rfl, N3q, e3⟩ := hQ3
  have N3 := Fr.app N2 N3q
  obtain ⟨fs, hr, hrun, hended, hW, hsame⟩ := X3.leave (v := some (.int (1 : Int32))) (fun h => by rw [Bd.returns] at h; cases h)
  refine ⟨_, _, pre0 _ ?_, hrun, hended, _, _, rfl, ?_, ⟨_, rfl⟩, hW, hsame.mono (by decide) (by decide)⟩
  · show Steps p.tables e below (s₁.setTop (mkF m 0 #[.val (.int i0), .val (.int i1), .val (.int i2), .unset, .unset, .unset] [])) _
    refine XS.iloadN X0.here hx rfl (hb hby at_0) rfl ?_
    show Steps p.tables e below (s₁.setTop (mkF m 1 #[.val (.int i0), .val (.int i1), .val (.int i2), .unset, .unset, .unset] [(.int i0)])) _
    refine X0.ldcInt hx hown (mvT hZ (hw _ (List.mem_of_getElem? (i := 0) rfl))) (g := (mkF m 1 #[.val (.int i0), .val (.int i1), .val (.int i2), .unset, .unset, .unset] [(.int i0)])) rfl (hb hby at_1) _ ?_
    show Steps p.tables e below (s₁.setTop (mkF m 3 #[.val (.int i0), .val (.int i1), .val (.int i2), .unset, .unset, .unset] [(.int (2147483647 : Int32)), (.int i0)])) _
    refine XS.iand X0.here hx rfl (hb hby at_3) rfl ?_
    show Steps p.tables e below (s₁.setTop (mkF m 4 #[.val (.int i0), .val (.int i1), .val (.int i2), .unset, .unset, .unset] [(.int (i0 &&& (2147483647 : Int32)))])) _
    refine XS.bipush X0.here hx rfl (hb hby at_4) ?_
    show Steps p.tables e below (s₁.setTop (mkF m 6 #[.val (.int i0), .val (.int i1), .val (.int i2), .unset, .unset, .unset] [(.int (9 : Int32)), (.int (i0 &&& (2147483647 : Int32)))])) _
    refine iremM (g := (mkF m 6 #[.val (.int i0), .val (.int i1), .val (.int i2), .unset, .unset, .unset] [(.int (9 : Int32)), (.int (i0 &&& (2147483647 : Int32)))])) X0 hx rfl (hb hby at_6) rfl (by decide) ?_
    show Steps p.tables e below (s₁.setTop (mkF m 7 #[.val (.int i0), .val (.int i1), .val (.int i2), .unset, .unset, .unset] [(.int ((i0 &&& (2147483647 : Int32)) % (9 : Int32)))])) _
    rw [hk]
    show Steps p.tables e below (s₁.setTop (mkF m 7 #[.val (.int i0), .val (.int i1), .val (.int i2), .unset, .unset, .unset] [(.int (6 : Int32))])) _
    refine XS.istoreN X0.here hx rfl (hb hby at_7) rfl (l' := #[.val (.int i0), .val (.int i1), .val (.int i2), .val (.int (6 : Int32)), .unset, .unset]) rfl ?_
    show Steps p.tables e below (s₁.setTop (mkF m 8 #[.val (.int i0), .val (.int i1), .val (.int i2), .val (.int (6 : Int32)), .unset, .unset] [])) _
    refine XS.iloadN X0.here hx rfl (hb hby at_8) rfl ?_
    show Steps p.tables e below (s₁.setTop (mkF m 9 #[.val (.int i0), .val (.int i1), .val (.int i2), .val (.int (6 : Int32)), .unset, .unset] [(.int i1)])) _
    refine XS.iconst X0.here hx rfl (hb hby at_9) ?_
    show Steps p.tables e below (s₁.setTop (mkF m 10 #[.val (.int i0), .val (.int i1), .val (.int i2), .val (.int (6 : Int32)), .unset, .unset] [(.int (1 : Int32)), (.int i1)])) _
    refine XS.iand X0.here hx rfl (hb hby at_10) rfl ?_
    show Steps p.tables e below (s₁.setTop (mkF m 11 #[.val (.int i0), .val (.int i1), .val (.int i2), .val (.int (6 : Int32)), .unset, .unset] [(.int (i1 &&& (1 : Int32)))])) _
    rw [hm]
    show Steps p.tables e below (s₁.setTop (mkF m 11 #[.val (.int i0), .val (.int i1), .val (.int i2), .val (.int (6 : Int32)), .unset, .unset] [(.int (0 : Int32))])) _
    refine XS.ifYes X0.here hx rfl (pc0 := 11) (pc' := 25) rfl (hb hby at_11) rfl ((if0 _ _).trans (teq (by decide : (0 : Int32) = (0 : Int32))).1) (by decide) (by decide) ?_
    show Steps p.tables e below (s₁.setTop (mkF m 25 #[.val (.int i0), .val (.int i1), .val (.int i2), .val (.int (6 : Int32)), .unset, .unset] [])) _
    refine XS.iloadN X0.here hx rfl (hb hby at_25) rfl ?_
    show Steps p.tables e below (s₁.setTop (mkF m 26 #[.val (.int i0), .val (.int i1), .val (.int i2), .val (.int (6 : Int32)), .unset, .unset] [(.int i2)])) _
    refine XS.istore X0.here hx rfl (hb hby at_26) rfl (l' := #[.val (.int i0), .val (.int i1), .val (.int i2), .val (.int (6 : Int32)), .val (.int i2), .unset]) rfl ?_
    show Steps p.tables e below (s₁.setTop (mkF m 28 #[.val (.int i0), .val (.int i1), .val (.int i2), .val (.int (6 : Int32)), .val (.int i2), .unset] [])) _
    refine XS.iloadN X0.here hx rfl (hb hby at_28) rfl ?_
    show Steps p.tables e below (s₁.setTop (mkF m 29 #[.val (.int i0), .val (.int i1), .val (.int i2), .val (.int (6 : Int32)), .val (.int i2), .unset] [(.int (6 : Int32))])) _
    refine st1 _ ?_
    show Steps p.tables e below (T1.setTop (mkF m 32 #[.val (.int i0), .val (.int i1), .val (.int i2), .val (.int (6 : Int32)), .val (.int i2), .unset] [(.ref r4)])) _
    refine XS.astore X1.here hx rfl (hb hby at_32) rfl rfl (l' := #[.val (.int i0), .val (.int i1), .val (.int i2), .val (.int (6 : Int32)), .val (.int i2), .val (.ref r4)]) rfl ?_
    show Steps p.tables e below (T1.setTop (mkF m 34 #[.val (.int i0), .val (.int i1), .val (.int i2), .val (.int (6 : Int32)), .val (.int i2), .val (.ref r4)] [])) _
    refine XS.aload X1.here hx rfl (hb hby at_34) rfl rfl ?_
    show Steps p.tables e below (T1.setTop (mkF m 36 #[.val (.int i0), .val (.int i1), .val (.int i2), .val (.int (6 : Int32)), .val (.int i2), .val (.ref r4)] [(.ref r4)])) _
    refine XS.iload X1.here hx rfl (hb hby at_36) rfl ?_
    show Steps p.tables e below (T1.setTop (mkF m 38 #[.val (.int i0), .val (.int i1), .val (.int i2), .val (.int (6 : Int32)), .val (.int i2), .val (.ref r4)] [(.int i2), (.ref r4)])) _
    refine st2.trans ?_
    show Steps p.tables e below (T2.setTop (mkF m 41 #[.val (.int i0), .val (.int i1), .val (.int i2), .val (.int (6 : Int32)), .val (.int i2), .val (.ref r4)] [(.int (0 : Int32))])) _
    refine XS.iloadN X2.here hx rfl (hb hby at_41) rfl ?_
    show Steps p.tables e below (T2.setTop (mkF m 42 #[.val (.int i0), .val (.int i1), .val (.int i2), .val (.int (6 : Int32)), .val (.int i2), .val (.ref r4)] [(.int (6 : Int32)), (.int (0 : Int32))])) _
    refine XS.iload X2.here hx rfl (hb hby at_42) rfl ?_
    show Steps p.tables e below (T2.setTop (mkF m 44 #[.val (.int i0), .val (.int i1), .val (.int i2), .val (.int (6 : Int32)), .val (.int i2), .val (.ref r4)] [(.int i2), (.int (6 : Int32)), (.int (0 : Int32))])) _
    refine st3 _ ?_
    show Steps p.tables e below (T3.setTop (mkF m 47 #[.val (.int i0), .val (.int i1), .val (.int i2), .val (.int (6 : Int32)), .val (.int i2), .val (.ref r4)] [(.int (0 : Int32)), (.int (0 : Int32))])) _
    refine XS.icmpNo X3.here hx rfl (hb hby at_47) rfl (teq (by decide : (0 : Int32) = (0 : Int32))).2 ?_
    show Steps p.tables e below (T3.setTop (mkF m 50 #[.val (.int i0), .val (.int i1), .val (.int i2), .val (.int (6 : Int32)), .val (.int i2), .val (.ref r4)] [])) _
    refine XS.iconst X3.here hx rfl (hb hby at_50) ?_
    show Steps p.tables e below (T3.setTop (mkF m 51 #[.val (.int i0), .val (.int i1), .val (.int i2), .val (.int (6 : Int32)), .val (.int i2), .val (.ref r4)] [(.int (1 : Int32))])) _
    refine XS.goto X3.here hx rfl (pc0 := 51) (pc' := 55) rfl (hb hby at_51) (by decide) (by decide) ?_
    show Steps p.tables e below (T3.setTop (mkF m 55 #[.val (.int i0), .val (.int i1), .val (.int i2), .val (.int (6 : Int32)), .val (.int i2), .val (.ref r4)] [(.int (1 : Int32))])) _
    exact retN X3 hx (t := .boolean) Bd.returns (by simp) (hb hby at_55) hr
  · exact ⟨rfl, N3, e3⟩
set_option maxRecDepth 65536 in
set_option maxHeartbeats 40000000 in
theorem own_r0_k6m1c0 (l : Launch) (Z : State) (a0 : Array Value) (hw : ∀ d ∈ tables_1, d.before a0 Z = true) (ws : List Jvm.Cond) (r0 : Addr) (r1 : Addr) (r2 : Addr) (r3 : Addr) (r4 : Addr) (r5 : Addr) (r6 : Addr) (r7 : Addr) (r8 : Addr) (r0_c : Addr) (cl_r0_c : Cell) (r1_c : Addr) (cl_r1_c : Cell) (r2_c : Addr) (cl_r2_c : Cell) (r3_c : Addr) (cl_r3_c : Cell) (r4_c : Addr) (cl_r4_c : Cell) (r5_c : Addr) (cl_r5_c : Cell) (r6_c : Addr) (cl_r6_c : Cell) (r7_c : Addr) (cl_r7_c : Cell) (r8_c : Addr) (cl_r8_c : Cell) (h0 : Heap) (n0 : Nat) (Z0 : n0 ≤ h0.size) (F : own_W Z h0 r0 r1 r2 r3 r4 r5 r6 r7 r8 r0_c cl_r0_c r1_c cl_r1_c r2_c cl_r2_c r3_c cl_r3_c r4_c cl_r4_c r5_c cl_r5_c r6_c cl_r6_c r7_c cl_r7_c r8_c cl_r8_c) (i0 : Int32) (i1 : Int32) (i2 : Int32) (hk : ((i0 &&& (2147483647 : Int32)) % (9 : Int32)) = (6 : Int32)) (hm : (i1 &&& (1 : Int32)) = (1 : Int32)) :
    MetFree l x (head1 (Jvm.Cond.code x code maxLocals ret :: ws) room_1) (fun a U => a = #[(.int i0), (.int i1), (.int i2)] ∧ Z.Warmed39 U.vm ∧ U.heap = h0) (fun _ _ _ _ _ => True) (fun _ U o U' => ∃ v L, o = .returned v ∧ own_Q (.int (1 : Int32)) h0 n0 v U'.heap L ∧ FrameEnd U o U' L room_1.cells room_1.slots) := by
  obtain ⟨S_r0, E_r0, S_r1, E_r1, S_r2, E_r2, S_r3, E_r3, S_r4, E_r4, S_r5, E_r5, S_r6, E_r6, S_r7, E_r7, S_r8, E_r8, F_r0_counts, Ar_r0_c, F_r1_counts, Ar_r1_c, F_r2_counts, Ar_r2_c, F_r3_counts, Ar_r3_c, F_r4_counts, Ar_r4_c, F_r5_counts, Ar_r5_c, F_r6_counts, Ar_r6_c, F_r7_counts, Ar_r7_c, F_r8_counts, Ar_r8_c, Sz_r0_c, El_r0_c_0, Sz_r1_c, El_r1_c_0, El_r1_c_1, Sz_r2_c, El_r2_c_0, Sz_r3_c, Sz_r4_c, Sz_r5_c, Sz_r6_c, Sz_r7_c, Sz_r8_c⟩ := id F
  refine MetFree.of_bodySF (plainFor_of_name own_pn_CommandTakesPinLaw) hisR ?_
  intro p e s m args below meth c s₁ Bd hml0 hP hK
  obtain ⟨rfl, hZ, hh⟩ := hP
  have hx := Bd.exec
  have hby := Bd.bytes
  have hml : c.maxLocals = 6 := hml0
  have hown : s.vm.findClass "com/example/urbana/urbana/protocol/CommandTakesPinLaw" = some m.cls := findClass_of_methodNamed Bd.named
  have X0 : Stand p l e room_1 s m #[(.int i0), (.int i1), (.int i2)] below meth c s₁ [] 0 0 := Stand.of_body Bd
  have e0 : s₁.heap = h0 := by rw [← hh, Bd.state]; rfl
  have N0 := Fr.nil n0
  have pre0 : ∀ t, Steps p.tables e below (s₁.setTop (mkF m 0 #[.val (.int i0), .val (.int i1), .val (.int i2), .unset, .unset, .unset] [])) t → Steps p.tables e below (s₁.setTop (entryFrame m #[(.int i0), (.int i1), (.int i2)] maxLocals)) t := fun t k => castTop (own_ef0_III m i0 i1 i2) k
  obtain ⟨_, _, ⟨T1, L1, k1, n1⟩, -, X1, ⟨Lc1, hQ1, l1, y1, z1⟩, st1⟩ := Jvm.LawKit.callS X0 hx (y := (⟨"com/example/urbana/urbana/protocol/CommandTakesPinLaw", "pick", "(I)Lcom/example/urbana/urbana/protocol/Command;"⟩ : MethodName)) hown (mvT hZ (hw _ (List.mem_of_getElem? (i := 1) rfl))) (mvT hZ (hw _ (List.mem_of_getElem? (i := 2) rfl))) (mvT hZ (hw _ (List.mem_of_getElem? (i := 3) rfl))) (mvT hZ (hw _ (List.mem_of_getElem? (i := 4) rfl))) (by decide) (backOf (W := 0) (own_r1_48 l Z a0 hw [] r0 r1 r2 r3 r4 r5 r6 r7 r8 r0_c cl_r0_c r1_c cl_r1_c r2_c cl_r2_c r3_c cl_r3_c r4_c cl_r4_c r5_c cl_r5_c r6_c cl_r6_c r7_c cl_r7_c r8_c cl_r8_c h0 n0 Z0 F ) hZ (hw _ (List.mem_of_getElem? (i := 4) rfl)) (hw _ (List.mem_of_getElem? (i := 3) rfl)) (by decide) (by decide)) (g := (mkF m 29 #[.val (.int i0), .val (.int i1), .val (.int i2), .val (.int (6 : Int32)), .val (.int (((i1 >>> ((1 : Int32) &&& 31)) &&& (7 : Int32)) - (2 : Int32))), .unset] [(.int (6 : Int32))])) rfl (by rw [hml]; rfl) (argsL := [(.int (6 : Int32))]) (rest := []) (lenOf own_pd0 rfl) rfl (by show 2 * 0 + _ ≤ _; exact Nat.le_of_eq rfl) (hb hby at_29) (fun _ _ => ⟨rfl, e0, (by decide : 0 + 0 ≤ _), (by decide : 0 + 0 ≤ _)⟩)
  dsimp only [Pt.U, Pt.locs, Pt.cells, Pt.slots] at X1 l1 y1 z1 st1 hQ1
  subst l1 y1 z1
  obtain ⟨rfl, N1q, e1⟩ := hQ1
  have N1 := Fr.app N0 N1q
  obtain ⟨cq2, kq2, q2a, q2b, q2c⟩ := isOf hZ e1 E_r4
  obtain ⟨_, _, ⟨T2, L2, k2, n2⟩, -, X2, ⟨Lc2, hQ2, l2, y2, z2⟩, st2⟩ := X1.virtualBack hx (y := (⟨"com/example/urbana/urbana/protocol/Command", "takes", "(I)Z"⟩ : MethodName)) (z := (⟨"com/example/urbana/urbana/protocol/Command", "takes", "(I)Z"⟩ : MethodName)) hown (mvT hZ (hw _ (List.mem_of_getElem? (i := 8) rfl))) (mvT hZ (hw _ (List.mem_of_getElem? (i := 9) rfl))) (notFace_of_selects (args := #[]) (mvT hZ (hw _ (List.mem_of_getElem? (i := 11) rfl)))) (mvT hZ (hw _ (List.mem_of_getElem? (i := 11) rfl))) (mvT hZ (hw _ (List.mem_of_getElem? (i := 10) rfl))) (by decide) (backOf (W := 0) (own_r2_49 l Z a0 hw [] r0 r1 r2 r3 r4 r5 r6 r7 r8 r0_c cl_r0_c r1_c cl_r1_c r2_c cl_r2_c r3_c cl_r3_c r4_c cl_r4_c r5_c cl_r5_c r6_c cl_r6_c r7_c cl_r7_c r8_c cl_r8_c h0 n0 Z0 F (((i1 >>> ((1 : Int32) &&& 31)) &&& (7 : Int32)) - (2 : Int32))) hZ (hw _ (List.mem_of_getElem? (i := 12) rfl)) (hw _ (List.mem_of_getElem? (i := 6) rfl)) (by decide) (by decide)) q2a q2c (g := (mkF m 38 #[.val (.int i0), .val (.int i1), .val (.int i2), .val (.int (6 : Int32)), .val (.int (((i1 >>> ((1 : Int32) &&& 31)) &&& (7 : Int32)) - (2 : Int32))), .val (.ref r4)] [(.int (((i1 >>> ((1 : Int32) &&& 31)) &&& (7 : Int32)) - (2 : Int32))), (.ref r4)])) rfl (by rw [hml]; rfl) (Steps.refl _) (argsL := [(.int (((i1 >>> ((1 : Int32) &&& 31)) &&& (7 : Int32)) - (2 : Int32)))]) (rest := []) (lenOf own_pd1 rfl) rfl (by show 2 * 0 + _ ≤ _; exact Nat.le_of_eq rfl) (hb hby at_38) (fun _ _ => ⟨rfl, e1, (by decide : 0 + 0 ≤ _), (by decide : 0 + 0 ≤ _)⟩)
  dsimp only [Pt.U, Pt.locs, Pt.cells, Pt.slots] at X2 l2 y2 z2 st2 hQ2
  subst l2 y2 z2
  obtain ⟨rfl, N2q, e2⟩ := hQ2
  have N2 := Fr.app N1 N2q
  obtain ⟨_, _, ⟨T3, L3, k3, n3⟩, -, X3, ⟨Lc3, hQ3, l3, y3, z3⟩, st3⟩ := Jvm.LawKit.callS X2 hx (y := (⟨"com/example/urbana/urbana/protocol/CommandTakesPinLaw", "expected", "(II)Z"⟩ : MethodName)) hown (mvT hZ (hw _ (List.mem_of_getElem? (i := 15) rfl))) (mvT hZ (hw _ (List.mem_of_getElem? (i := 16) rfl))) (mvT hZ (hw _ (List.mem_of_getElem? (i := 3) rfl))) (mvT hZ (hw _ (List.mem_of_getElem? (i := 17) rfl))) (by decide) (backOf (W := 1) (own_r3_50 l Z a0 hw [] r0 r1 r2 r3 r4 r5 r6 r7 r8 r0_c cl_r0_c r1_c cl_r1_c r2_c cl_r2_c r3_c cl_r3_c r4_c cl_r4_c r5_c cl_r5_c r6_c cl_r6_c r7_c cl_r7_c r8_c cl_r8_c h0 n0 Z0 F (((i1 >>> ((1 : Int32) &&& 31)) &&& (7 : Int32)) - (2 : Int32))) hZ (hw _ (List.mem_of_getElem? (i := 17) rfl)) (hw _ (List.mem_of_getElem? (i := 3) rfl)) (by decide) (by decide)) (g := (mkF m 44 #[.val (.int i0), .val (.int i1), .val (.int i2), .val (.int (6 : Int32)), .val (.int (((i1 >>> ((1 : Int32) &&& 31)) &&& (7 : Int32)) - (2 : Int32))), .val (.ref r4)] [(.int (((i1 >>> ((1 : Int32) &&& 31)) &&& (7 : Int32)) - (2 : Int32))), (.int (6 : Int32)), (.int (0 : Int32))])) rfl (by rw [hml]; rfl) (argsL := [(.int (6 : Int32)), (.int (((i1 >>> ((1 : Int32) &&& 31)) &&& (7 : Int32)) - (2 : Int32)))]) (rest := [(.int (0 : Int32))]) (lenOf own_pd2 rfl) rfl (by show 2 * 0 + _ ≤ _; exact Nat.le_of_eq rfl) (hb hby at_44) (fun _ _ => ⟨rfl, e2, (by decide : 0 + 0 ≤ _), (by decide : 0 + 0 ≤ _)⟩)
  dsimp only [Pt.U, Pt.locs, Pt.cells, Pt.slots] at X3 l3 y3 z3 st3 hQ3
  subst l3 y3 z3
  obtain ⟨rfl, N3q, e3⟩ := hQ3
  have N3 := Fr.app N2 N3q
  obtain ⟨fs, hr, hrun, hended, hW, hsame⟩ := X3.leave (v := some (.int (1 : Int32))) (fun h => by rw [Bd.returns] at h; cases h)
  refine ⟨_, _, pre0 _ ?_, hrun, hended, _, _, rfl, ?_, ⟨_, rfl⟩, hW, hsame.mono (by decide) (by decide)⟩
  · show Steps p.tables e below (s₁.setTop (mkF m 0 #[.val (.int i0), .val (.int i1), .val (.int i2), .unset, .unset, .unset] [])) _
    refine XS.iloadN X0.here hx rfl (hb hby at_0) rfl ?_
    show Steps p.tables e below (s₁.setTop (mkF m 1 #[.val (.int i0), .val (.int i1), .val (.int i2), .unset, .unset, .unset] [(.int i0)])) _
    refine X0.ldcInt hx hown (mvT hZ (hw _ (List.mem_of_getElem? (i := 0) rfl))) (g := (mkF m 1 #[.val (.int i0), .val (.int i1), .val (.int i2), .unset, .unset, .unset] [(.int i0)])) rfl (hb hby at_1) _ ?_
    show Steps p.tables e below (s₁.setTop (mkF m 3 #[.val (.int i0), .val (.int i1), .val (.int i2), .unset, .unset, .unset] [(.int (2147483647 : Int32)), (.int i0)])) _
    refine XS.iand X0.here hx rfl (hb hby at_3) rfl ?_
    show Steps p.tables e below (s₁.setTop (mkF m 4 #[.val (.int i0), .val (.int i1), .val (.int i2), .unset, .unset, .unset] [(.int (i0 &&& (2147483647 : Int32)))])) _
    refine XS.bipush X0.here hx rfl (hb hby at_4) ?_
    show Steps p.tables e below (s₁.setTop (mkF m 6 #[.val (.int i0), .val (.int i1), .val (.int i2), .unset, .unset, .unset] [(.int (9 : Int32)), (.int (i0 &&& (2147483647 : Int32)))])) _
    refine iremM (g := (mkF m 6 #[.val (.int i0), .val (.int i1), .val (.int i2), .unset, .unset, .unset] [(.int (9 : Int32)), (.int (i0 &&& (2147483647 : Int32)))])) X0 hx rfl (hb hby at_6) rfl (by decide) ?_
    show Steps p.tables e below (s₁.setTop (mkF m 7 #[.val (.int i0), .val (.int i1), .val (.int i2), .unset, .unset, .unset] [(.int ((i0 &&& (2147483647 : Int32)) % (9 : Int32)))])) _
    rw [hk]
    show Steps p.tables e below (s₁.setTop (mkF m 7 #[.val (.int i0), .val (.int i1), .val (.int i2), .unset, .unset, .unset] [(.int (6 : Int32))])) _
    refine XS.istoreN X0.here hx rfl (hb hby at_7) rfl (l' := #[.val (.int i0), .val (.int i1), .val (.int i2), .val (.int (6 : Int32)), .unset, .unset]) rfl ?_
    show Steps p.tables e below (s₁.setTop (mkF m 8 #[.val (.int i0), .val (.int i1), .val (.int i2), .val (.int (6 : Int32)), .unset, .unset] [])) _
    refine XS.iloadN X0.here hx rfl (hb hby at_8) rfl ?_
    show Steps p.tables e below (s₁.setTop (mkF m 9 #[.val (.int i0), .val (.int i1), .val (.int i2), .val (.int (6 : Int32)), .unset, .unset] [(.int i1)])) _
    refine XS.iconst X0.here hx rfl (hb hby at_9) ?_
    show Steps p.tables e below (s₁.setTop (mkF m 10 #[.val (.int i0), .val (.int i1), .val (.int i2), .val (.int (6 : Int32)), .unset, .unset] [(.int (1 : Int32)), (.int i1)])) _
    refine XS.iand X0.here hx rfl (hb hby at_10) rfl ?_
    show Steps p.tables e below (s₁.setTop (mkF m 11 #[.val (.int i0), .val (.int i1), .val (.int i2), .val (.int (6 : Int32)), .unset, .unset] [(.int (i1 &&& (1 : Int32)))])) _
    rw [hm]
    show Steps p.tables e below (s₁.setTop (mkF m 11 #[.val (.int i0), .val (.int i1), .val (.int i2), .val (.int (6 : Int32)), .unset, .unset] [(.int (1 : Int32))])) _
    refine XS.ifNo X0.here hx rfl (hb hby at_11) rfl ((if0 _ _).trans (feq (by decide : ¬ ((1 : Int32) = (0 : Int32)))).1) ?_
    show Steps p.tables e below (s₁.setTop (mkF m 14 #[.val (.int i0), .val (.int i1), .val (.int i2), .val (.int (6 : Int32)), .unset, .unset] [])) _
    refine XS.iloadN X0.here hx rfl (hb hby at_14) rfl ?_
    show Steps p.tables e below (s₁.setTop (mkF m 15 #[.val (.int i0), .val (.int i1), .val (.int i2), .val (.int (6 : Int32)), .unset, .unset] [(.int i1)])) _
    refine XS.iconst X0.here hx rfl (hb hby at_15) ?_
    show Steps p.tables e below (s₁.setTop (mkF m 16 #[.val (.int i0), .val (.int i1), .val (.int i2), .val (.int (6 : Int32)), .unset, .unset] [(.int (1 : Int32)), (.int i1)])) _
    refine XS.ishr X0.here hx rfl (hb hby at_16) rfl ?_
    show Steps p.tables e below (s₁.setTop (mkF m 17 #[.val (.int i0), .val (.int i1), .val (.int i2), .val (.int (6 : Int32)), .unset, .unset] [(.int (i1 >>> ((1 : Int32) &&& 31)))])) _
    refine XS.bipush X0.here hx rfl (hb hby at_17) ?_
    show Steps p.tables e below (s₁.setTop (mkF m 19 #[.val (.int i0), .val (.int i1), .val (.int i2), .val (.int (6 : Int32)), .unset, .unset] [(.int (7 : Int32)), (.int (i1 >>> ((1 : Int32) &&& 31)))])) _
    refine XS.iand X0.here hx rfl (hb hby at_19) rfl ?_
    show Steps p.tables e below (s₁.setTop (mkF m 20 #[.val (.int i0), .val (.int i1), .val (.int i2), .val (.int (6 : Int32)), .unset, .unset] [(.int ((i1 >>> ((1 : Int32) &&& 31)) &&& (7 : Int32)))])) _
    refine XS.iconst X0.here hx rfl (hb hby at_20) ?_
    show Steps p.tables e below (s₁.setTop (mkF m 21 #[.val (.int i0), .val (.int i1), .val (.int i2), .val (.int (6 : Int32)), .unset, .unset] [(.int (2 : Int32)), (.int ((i1 >>> ((1 : Int32) &&& 31)) &&& (7 : Int32)))])) _
    refine XS.isub X0.here hx rfl (hb hby at_21) rfl ?_
    show Steps p.tables e below (s₁.setTop (mkF m 22 #[.val (.int i0), .val (.int i1), .val (.int i2), .val (.int (6 : Int32)), .unset, .unset] [(.int (((i1 >>> ((1 : Int32) &&& 31)) &&& (7 : Int32)) - (2 : Int32)))])) _
    refine XS.goto X0.here hx rfl (pc0 := 22) (pc' := 26) rfl (hb hby at_22) (by decide) (by decide) ?_
    show Steps p.tables e below (s₁.setTop (mkF m 26 #[.val (.int i0), .val (.int i1), .val (.int i2), .val (.int (6 : Int32)), .unset, .unset] [(.int (((i1 >>> ((1 : Int32) &&& 31)) &&& (7 : Int32)) - (2 : Int32)))])) _
    refine XS.istore X0.here hx rfl (hb hby at_26) rfl (l' := #[.val (.int i0), .val (.int i1), .val (.int i2), .val (.int (6 : Int32)), .val (.int (((i1 >>> ((1 : Int32) &&& 31)) &&& (7 : Int32)) - (2 : Int32))), .unset]) rfl ?_
    show Steps p.tables e below (s₁.setTop (mkF m 28 #[.val (.int i0), .val (.int i1), .val (.int i2), .val (.int (6 : Int32)), .val (.int (((i1 >>> ((1 : Int32) &&& 31)) &&& (7 : Int32)) - (2 : Int32))), .unset] [])) _
    refine XS.iloadN X0.here hx rfl (hb hby at_28) rfl ?_
    show Steps p.tables e below (s₁.setTop (mkF m 29 #[.val (.int i0), .val (.int i1), .val (.int i2), .val (.int (6 : Int32)), .val (.int (((i1 >>> ((1 : Int32) &&& 31)) &&& (7 : Int32)) - (2 : Int32))), .unset] [(.int (6 : Int32))])) _
    refine st1 _ ?_
    show Steps p.tables e below (T1.setTop (mkF m 32 #[.val (.int i0), .val (.int i1), .val (.int i2), .val (.int (6 : Int32)), .val (.int (((i1 >>> ((1 : Int32) &&& 31)) &&& (7 : Int32)) - (2 : Int32))), .unset] [(.ref r4)])) _
    refine XS.astore X1.here hx rfl (hb hby at_32) rfl rfl (l' := #[.val (.int i0), .val (.int i1), .val (.int i2), .val (.int (6 : Int32)), .val (.int (((i1 >>> ((1 : Int32) &&& 31)) &&& (7 : Int32)) - (2 : Int32))), .val (.ref r4)]) rfl ?_
    show Steps p.tables e below (T1.setTop (mkF m 34 #[.val (.int i0), .val (.int i1), .val (.int i2), .val (.int (6 : Int32)), .val (.int (((i1 >>> ((1 : Int32) &&& 31)) &&& (7 : Int32)) - (2 : Int32))), .val (.ref r4)] [])) _
    refine XS.aload X1.here hx rfl (hb hby at_34) rfl rfl ?_
    show Steps p.tables e below (T1.setTop (mkF m 36 #[.val (.int i0), .val (.int i1), .val (.int i2), .val (.int (6 : Int32)), .val (.int (((i1 >>> ((1 : Int32) &&& 31)) &&& (7 : Int32)) - (2 : Int32))), .val (.ref r4)] [(.ref r4)])) _
    refine XS.iload X1.here hx rfl (hb hby at_36) rfl ?_
    show Steps p.tables e below (T1.setTop (mkF m 38 #[.val (.int i0), .val (.int i1), .val (.int i2), .val (.int (6 : Int32)), .val (.int (((i1 >>> ((1 : Int32) &&& 31)) &&& (7 : Int32)) - (2 : Int32))), .val (.ref r4)] [(.int (((i1 >>> ((1 : Int32) &&& 31)) &&& (7 : Int32)) - (2 : Int32))), (.ref r4)])) _
    refine st2.trans ?_
    show Steps p.tables e below (T2.setTop (mkF m 41 #[.val (.int i0), .val (.int i1), .val (.int i2), .val (.int (6 : Int32)), .val (.int (((i1 >>> ((1 : Int32) &&& 31)) &&& (7 : Int32)) - (2 : Int32))), .val (.ref r4)] [(.int (0 : Int32))])) _
    refine XS.iloadN X2.here hx rfl (hb hby at_41) rfl ?_
    show Steps p.tables e below (T2.setTop (mkF m 42 #[.val (.int i0), .val (.int i1), .val (.int i2), .val (.int (6 : Int32)), .val (.int (((i1 >>> ((1 : Int32) &&& 31)) &&& (7 : Int32)) - (2 : Int32))), .val (.ref r4)] [(.int (6 : Int32)), (.int (0 : Int32))])) _
    refine XS.iload X2.here hx rfl (hb hby at_42) rfl ?_
    show Steps p.tables e below (T2.setTop (mkF m 44 #[.val (.int i0), .val (.int i1), .val (.int i2), .val (.int (6 : Int32)), .val (.int (((i1 >>> ((1 : Int32) &&& 31)) &&& (7 : Int32)) - (2 : Int32))), .val (.ref r4)] [(.int (((i1 >>> ((1 : Int32) &&& 31)) &&& (7 : Int32)) - (2 : Int32))), (.int (6 : Int32)), (.int (0 : Int32))])) _
    refine st3 _ ?_
    show Steps p.tables e below (T3.setTop (mkF m 47 #[.val (.int i0), .val (.int i1), .val (.int i2), .val (.int (6 : Int32)), .val (.int (((i1 >>> ((1 : Int32) &&& 31)) &&& (7 : Int32)) - (2 : Int32))), .val (.ref r4)] [(.int (0 : Int32)), (.int (0 : Int32))])) _
    refine XS.icmpNo X3.here hx rfl (hb hby at_47) rfl (teq (by decide : (0 : Int32) = (0 : Int32))).2 ?_
    show Steps p.tables e below (T3.setTop (mkF m 50 #[.val (.int i0), .val (.int i1), .val (.int i2), .val (.int (6 : Int32)), .val (.int (((i1 >>> ((1 : Int32) &&& 31)) &&& (7 : Int32)) - (2 : Int32))), .val (.ref r4)] [])) _
    refine XS.iconst X3.here hx rfl (hb hby at_50) ?_
    show Steps p.tables e below (T3.setTop (mkF m 51 #[.val (.int i0), .val (.int i1), .val (.int i2), .val (.int (6 : Int32)), .val (.int (((i1 >>> ((1 : Int32) &&& 31)) &&& (7 : Int32)) - (2 : Int32))), .val (.ref r4)] [(.int (1 : Int32))])) _
    refine XS.goto X3.here hx rfl (pc0 := 51) (pc' := 55) rfl (hb hby at_51) (by decide) (by decide) ?_
    show Steps p.tables e below (T3.setTop (mkF m 55 #[.val (.int i0), .val (.int i1), .val (.int i2), .val (.int (6 : Int32)), .val (.int (((i1 >>> ((1 : Int32) &&& 31)) &&& (7 : Int32)) - (2 : Int32))), .val (.ref r4)] [(.int (1 : Int32))])) _
    exact retN X3 hx (t := .boolean) Bd.returns (by simp) (hb hby at_55) hr
  · exact ⟨rfl, N3, e3⟩
theorem own_d1_63 : decode method_2_code 63 = .ok (.iload_n 0, 1) := by decide +kernel
theorem own_d1_64 : decode method_2_code 64 = .ok (.bipush 7, 2) := by decide +kernel
theorem own_d1_66 : decode method_2_code 66 = .ok (.if_icmp .ne 7, 3) := by decide +kernel
theorem own_d1_69 : decode method_2_code 69 = .ok (.getstatic 31, 3) := by decide +kernel
theorem own_d1_72 : decode method_2_code 72 = .ok (.areturn, 1) := by decide +kernel
set_option maxRecDepth 65536 in
set_option maxHeartbeats 40000000 in
theorem own_r1_53 (l : Launch) (Z : State) (a0 : Array Value) (hw : ∀ d ∈ tables_1, d.before a0 Z = true) (ws : List Jvm.Cond) (r0 : Addr) (r1 : Addr) (r2 : Addr) (r3 : Addr) (r4 : Addr) (r5 : Addr) (r6 : Addr) (r7 : Addr) (r8 : Addr) (r0_c : Addr) (cl_r0_c : Cell) (r1_c : Addr) (cl_r1_c : Cell) (r2_c : Addr) (cl_r2_c : Cell) (r3_c : Addr) (cl_r3_c : Cell) (r4_c : Addr) (cl_r4_c : Cell) (r5_c : Addr) (cl_r5_c : Cell) (r6_c : Addr) (cl_r6_c : Cell) (r7_c : Addr) (cl_r7_c : Cell) (r8_c : Addr) (cl_r8_c : Cell) (h0 : Heap) (n0 : Nat) (Z0 : n0 ≤ h0.size) (F : own_W Z h0 r0 r1 r2 r3 r4 r5 r6 r7 r8 r0_c cl_r0_c r1_c cl_r1_c r2_c cl_r2_c r3_c cl_r3_c r4_c cl_r4_c r5_c cl_r5_c r6_c cl_r6_c r7_c cl_r7_c r8_c cl_r8_c)   :
    MetFree l (⟨"com/example/urbana/urbana/protocol/CommandTakesPinLaw", "pick", "(I)Lcom/example/urbana/urbana/protocol/Command;"⟩ : MethodName) (head1 (Jvm.Cond.code (⟨"com/example/urbana/urbana/protocol/CommandTakesPinLaw", "pick", "(I)Lcom/example/urbana/urbana/protocol/Command;"⟩ : MethodName) method_2_code 1 (some (.object "com/example/urbana/urbana/protocol/Command")) :: ws) ({ frames := 0, cells := 0, slots := 0, locals := 0 } : Room)) (fun a U => a = #[(.int (7 : Int32))] ∧ Z.Warmed39 U.vm ∧ U.heap = h0) (fun _ _ _ _ _ => True) (fun _ U o U' => ∃ v L, o = .returned v ∧ own_Q (.ref r5) h0 n0 v U'.heap L ∧ FrameEnd U o U' L ({ frames := 0, cells := 0, slots := 0, locals := 0 } : Room).cells ({ frames := 0, cells := 0, slots := 0, locals := 0 } : Room).slots) := by
  obtain ⟨S_r0, E_r0, S_r1, E_r1, S_r2, E_r2, S_r3, E_r3, S_r4, E_r4, S_r5, E_r5, S_r6, E_r6, S_r7, E_r7, S_r8, E_r8, F_r0_counts, Ar_r0_c, F_r1_counts, Ar_r1_c, F_r2_counts, Ar_r2_c, F_r3_counts, Ar_r3_c, F_r4_counts, Ar_r4_c, F_r5_counts, Ar_r5_c, F_r6_counts, Ar_r6_c, F_r7_counts, Ar_r7_c, F_r8_counts, Ar_r8_c, Sz_r0_c, El_r0_c_0, Sz_r1_c, El_r1_c_0, El_r1_c_1, Sz_r2_c, El_r2_c_0, Sz_r3_c, Sz_r4_c, Sz_r5_c, Sz_r6_c, Sz_r7_c, Sz_r8_c⟩ := id F
  refine MetFree.of_bodySF (plainFor_of_name own_pn_CommandTakesPinLaw) hisR ?_
  intro p e s m args below meth c s₁ Bd hml0 hP hK
  obtain ⟨rfl, hZ, hh⟩ := hP
  have hx := Bd.exec
  have hby := Bd.bytes
  have hml : c.maxLocals = 1 := hml0
  have hown : s.vm.findClass "com/example/urbana/urbana/protocol/CommandTakesPinLaw" = some m.cls := findClass_of_methodNamed Bd.named
  have X0 : Stand p l e ({ frames := 0, cells := 0, slots := 0, locals := 0 } : Room) s m #[(.int (7 : Int32))] below meth c s₁ [] 0 0 := Stand.of_body Bd
  have e0 : s₁.heap = h0 := by rw [← hh, Bd.state]; rfl
  have N0 := Fr.nil n0
  have pre0 : ∀ t, Steps p.tables e below (s₁.setTop (mkF m 0 #[.val (.int (7 : Int32))] [])) t → Steps p.tables e below (s₁.setTop (entryFrame m #[(.int (7 : Int32))] 1)) t := fun t k => castTop (own_ef1_I m (7 : Int32)) k
  obtain ⟨T1, X1, e1, st1⟩ := getS2 X0 hx hZ hown (host := "") (Or.inl (hw _ (List.mem_of_getElem? (i := 26) rfl))) Via.refl e0 S_r5 (g := (mkF m 69 #[.val (.int (7 : Int32))] [])) rfl (hb hby own_d1_69)
  obtain ⟨fs, hr, hrun, hended, hW, hsame⟩ := X1.leave (v := some (.ref r5)) (fun h => by rw [Bd.returns] at h; cases h)
  refine ⟨_, _, pre0 _ ?_, hrun, hended, _, _, rfl, ?_, ⟨_, rfl⟩, hW, hsame.mono (by decide) (by decide)⟩
  · show Steps p.tables e below (s₁.setTop (mkF m 0 #[.val (.int (7 : Int32))] [])) _
    refine XS.iloadN X0.here hx rfl (hb hby own_d1_0) rfl ?_
    show Steps p.tables e below (s₁.setTop (mkF m 1 #[.val (.int (7 : Int32))] [(.int (7 : Int32))])) _
    refine XS.ifYes X0.here hx rfl (pc0 := 1) (pc' := 8) rfl (hb hby own_d1_1) rfl ((if0 _ _).trans (feq (by decide : ¬ ((7 : Int32) = (0 : Int32)))).2) (by decide) (by decide) ?_
    show Steps p.tables e below (s₁.setTop (mkF m 8 #[.val (.int (7 : Int32))] [])) _
    refine XS.iloadN X0.here hx rfl (hb hby own_d1_8) rfl ?_
    show Steps p.tables e below (s₁.setTop (mkF m 9 #[.val (.int (7 : Int32))] [(.int (7 : Int32))])) _
    refine XS.iconst X0.here hx rfl (hb hby own_d1_9) ?_
    show Steps p.tables e below (s₁.setTop (mkF m 10 #[.val (.int (7 : Int32))] [(.int (1 : Int32)), (.int (7 : Int32))])) _
    refine XS.icmpYes X0.here hx rfl (pc0 := 10) (pc' := 17) rfl (hb hby own_d1_10) rfl (feq (by decide : ¬ ((7 : Int32) = (1 : Int32)))).2 (by decide) (by decide) ?_
    show Steps p.tables e below (s₁.setTop (mkF m 17 #[.val (.int (7 : Int32))] [])) _
    refine XS.iloadN X0.here hx rfl (hb hby own_d1_17) rfl ?_
    show Steps p.tables e below (s₁.setTop (mkF m 18 #[.val (.int (7 : Int32))] [(.int (7 : Int32))])) _
    refine XS.iconst X0.here hx rfl (hb hby own_d1_18) ?_
    show Steps p.tables e below (s₁.setTop (mkF m 19 #[.val (.int (7 : Int32))] [(.int (2 : Int32)), (.int (7 : Int32))])) _
    refine XS.icmpYes X0.here hx rfl (pc0 := 19) (pc' := 26) rfl (hb hby own_d1_19) rfl (feq (by decide : ¬ ((7 : Int32) = (2 : Int32)))).2 (by decide) (by decide) ?_
    show Steps p.tables e below (s₁.setTop (mkF m 26 #[.val (.int (7 : Int32))] [])) _
    refine XS.iloadN X0.here hx rfl (hb hby own_d1_26) rfl ?_
    show Steps p.tables e below (s₁.setTop (mkF m 27 #[.val (.int (7 : Int32))] [(.int (7 : Int32))])) _
    refine XS.iconst X0.here hx rfl (hb hby own_d1_27) ?_
    show Steps p.tables e below (s₁.setTop (mkF m 28 #[.val (.int (7 : Int32))] [(.int (3 : Int32)), (.int (7 : Int32))])) _
    refine XS.icmpYes X0.here hx rfl (pc0 := 28) (pc' := 35) rfl (hb hby own_d1_28) rfl (feq (by decide : ¬ ((7 : Int32) = (3 : Int32)))).2 (by decide) (by decide) ?_
    show Steps p.tables e below (s₁.setTop (mkF m 35 #[.val (.int (7 : Int32))] [])) _
    refine XS.iloadN X0.here hx rfl (hb hby own_d1_35) rfl ?_
    show Steps p.tables e below (s₁.setTop (mkF m 36 #[.val (.int (7 : Int32))] [(.int (7 : Int32))])) _
    refine XS.iconst X0.here hx rfl (hb hby own_d1_36) ?_
    show Steps p.tables e below (s₁.setTop (mkF m 37 #[.val (.int (7 : Int32))] [(.int (4 : Int32)), (.int (7 : Int32))])) _
    refine XS.icmpYes X0.here hx rfl (pc0 := 37) (pc' := 44) rfl (hb hby own_d1_37) rfl (feq (by decide : ¬ ((7 : Int32) = (4 : Int32)))).2 (by decide) (by decide) ?_
    show Steps p.tables e below (s₁.setTop (mkF m 44 #[.val (.int (7 : Int32))] [])) _
    refine XS.iloadN X0.here hx rfl (hb hby own_d1_44) rfl ?_
    show Steps p.tables e below (s₁.setTop (mkF m 45 #[.val (.int (7 : Int32))] [(.int (7 : Int32))])) _
    refine XS.iconst X0.here hx rfl (hb hby own_d1_45) ?_
    show Steps p.tables e below (s₁.setTop (mkF m 46 #[.val (.int (7 : Int32))] [(.int (5 : Int32)), (.int (7 : Int32))])) _
    refine XS.icmpYes X0.here hx rfl (pc0 := 46) (pc' := 53) rfl (hb hby own_d1_46) rfl (feq (by decide : ¬ ((7 : Int32) = (5 : Int32)))).2 (by decide) (by decide) ?_
    show Steps p.tables e below (s₁.setTop (mkF m 53 #[.val (.int (7 : Int32))] [])) _
    refine XS.iloadN X0.here hx rfl (hb hby own_d1_53) rfl ?_
    show Steps p.tables e below (s₁.setTop (mkF m 54 #[.val (.int (7 : Int32))] [(.int (7 : Int32))])) _
    refine XS.bipush X0.here hx rfl (hb hby own_d1_54) ?_
    show Steps p.tables e below (s₁.setTop (mkF m 56 #[.val (.int (7 : Int32))] [(.int (6 : Int32)), (.int (7 : Int32))])) _
    refine XS.icmpYes X0.here hx rfl (pc0 := 56) (pc' := 63) rfl (hb hby own_d1_56) rfl (feq (by decide : ¬ ((7 : Int32) = (6 : Int32)))).2 (by decide) (by decide) ?_
    show Steps p.tables e below (s₁.setTop (mkF m 63 #[.val (.int (7 : Int32))] [])) _
    refine XS.iloadN X0.here hx rfl (hb hby own_d1_63) rfl ?_
    show Steps p.tables e below (s₁.setTop (mkF m 64 #[.val (.int (7 : Int32))] [(.int (7 : Int32))])) _
    refine XS.bipush X0.here hx rfl (hb hby own_d1_64) ?_
    show Steps p.tables e below (s₁.setTop (mkF m 66 #[.val (.int (7 : Int32))] [(.int (7 : Int32)), (.int (7 : Int32))])) _
    refine XS.icmpNo X0.here hx rfl (hb hby own_d1_66) rfl (teq (by decide : (7 : Int32) = (7 : Int32))).2 ?_
    show Steps p.tables e below (s₁.setTop (mkF m 69 #[.val (.int (7 : Int32))] [])) _
    refine st1 _ ?_
    show Steps p.tables e below (T1.setTop (mkF m 72 #[.val (.int (7 : Int32))] [(.ref r5)])) _
    jvm_step X1.here [X1.here.top, hx, (hb hby own_d1_72), X1.method', Bd.returns, Value.isRef, FieldType.isReference]
    first | (intro acts; rw [hr _ acts rfl rfl rfl]) | rw [hr _ _ rfl rfl rfl]
    exact Steps.refl _
  · exact ⟨rfl, N0, e1⟩
set_option maxRecDepth 65536 in
set_option maxHeartbeats 40000000 in
theorem own_r2_54 (l : Launch) (Z : State) (a0 : Array Value) (hw : ∀ d ∈ tables_1, d.before a0 Z = true) (ws : List Jvm.Cond) (r0 : Addr) (r1 : Addr) (r2 : Addr) (r3 : Addr) (r4 : Addr) (r5 : Addr) (r6 : Addr) (r7 : Addr) (r8 : Addr) (r0_c : Addr) (cl_r0_c : Cell) (r1_c : Addr) (cl_r1_c : Cell) (r2_c : Addr) (cl_r2_c : Cell) (r3_c : Addr) (cl_r3_c : Cell) (r4_c : Addr) (cl_r4_c : Cell) (r5_c : Addr) (cl_r5_c : Cell) (r6_c : Addr) (cl_r6_c : Cell) (r7_c : Addr) (cl_r7_c : Cell) (r8_c : Addr) (cl_r8_c : Cell) (h0 : Heap) (n0 : Nat) (Z0 : n0 ≤ h0.size) (F : own_W Z h0 r0 r1 r2 r3 r4 r5 r6 r7 r8 r0_c cl_r0_c r1_c cl_r1_c r2_c cl_r2_c r3_c cl_r3_c r4_c cl_r4_c r5_c cl_r5_c r6_c cl_r6_c r7_c cl_r7_c r8_c cl_r8_c) (q0 : Int32)  :
    MetFree l (⟨"com/example/urbana/urbana/protocol/Command", "takes", "(I)Z"⟩ : MethodName) (head1 (Jvm.Cond.code (⟨"com/example/urbana/urbana/protocol/Command", "takes", "(I)Z"⟩ : MethodName) prog_2_method_8_code 7 (some .boolean) :: ws) ({ frames := 0, cells := 0, slots := 0, locals := 0 } : Room)) (fun a U => a = #[(.ref r5), (.int q0)] ∧ Z.Warmed39 U.vm ∧ U.heap = h0) (fun _ _ _ _ _ => True) (fun _ U o U' => ∃ v L, o = .returned v ∧ own_Q (.int (0 : Int32)) h0 n0 v U'.heap L ∧ FrameEnd U o U' L ({ frames := 0, cells := 0, slots := 0, locals := 0 } : Room).cells ({ frames := 0, cells := 0, slots := 0, locals := 0 } : Room).slots) := by
  obtain ⟨S_r0, E_r0, S_r1, E_r1, S_r2, E_r2, S_r3, E_r3, S_r4, E_r4, S_r5, E_r5, S_r6, E_r6, S_r7, E_r7, S_r8, E_r8, F_r0_counts, Ar_r0_c, F_r1_counts, Ar_r1_c, F_r2_counts, Ar_r2_c, F_r3_counts, Ar_r3_c, F_r4_counts, Ar_r4_c, F_r5_counts, Ar_r5_c, F_r6_counts, Ar_r6_c, F_r7_counts, Ar_r7_c, F_r8_counts, Ar_r8_c, Sz_r0_c, El_r0_c_0, Sz_r1_c, El_r1_c_0, El_r1_c_1, Sz_r2_c, El_r2_c_0, Sz_r3_c, Sz_r4_c, Sz_r5_c, Sz_r6_c, Sz_r7_c, Sz_r8_c⟩ := id F
  refine MetFree.of_bodySF (plainFor_of_name own_pn_Command) hisR ?_
  intro p e s m args below meth c s₁ Bd hml0 hP hK
  obtain ⟨rfl, hZ, hh⟩ := hP
  have hx := Bd.exec
  have hby := Bd.bytes
  have hml : c.maxLocals = 7 := hml0
  have hown : s.vm.findClass "com/example/urbana/urbana/protocol/Command" = some m.cls := findClass_of_methodNamed Bd.named
  have X0 : Stand p l e ({ frames := 0, cells := 0, slots := 0, locals := 0 } : Room) s m #[(.ref r5), (.int q0)] below meth c s₁ [] 0 0 := Stand.of_body Bd
  have e0 : s₁.heap = h0 := by rw [← hh, Bd.state]; rfl
  have N0 := Fr.nil n0
  have pre0 : ∀ t, Steps p.tables e below (s₁.setTop (mkF m 0 #[.val (.ref r5), .val (.int q0), .unset, .unset, .unset, .unset, .unset] [])) t → Steps p.tables e below (s₁.setTop (entryFrame m #[(.ref r5), (.int q0)] 7)) t := fun t k => castTop (own_ef2_RI m r5 q0) k
  obtain ⟨T1, X1, e1, st1⟩ := getF X0 hx hZ hown (host := "") (Or.inl (hw _ (List.mem_of_getElem? (i := 13) rfl))) Via.refl e0 F_r5_counts (g := (mkF m 3 #[.val (.ref r5), .val (.int q0), .val (.int (0 : Int32)), .unset, .unset, .unset, .unset] [(.ref r5)])) rfl rfl (hb hby own_d2_3)
  obtain ⟨fs, hr, hrun, hended, hW, hsame⟩ := X1.leave (v := some (.int (0 : Int32))) (fun h => by rw [Bd.returns] at h; cases h)
  refine ⟨_, _, pre0 _ ?_, hrun, hended, _, _, rfl, ?_, ⟨_, rfl⟩, hW, hsame.mono (by decide) (by decide)⟩
  · show Steps p.tables e below (s₁.setTop (mkF m 0 #[.val (.ref r5), .val (.int q0), .unset, .unset, .unset, .unset, .unset] [])) _
    refine XS.iconst X0.here hx rfl (hb hby own_d2_0) ?_
    show Steps p.tables e below (s₁.setTop (mkF m 1 #[.val (.ref r5), .val (.int q0), .unset, .unset, .unset, .unset, .unset] [(.int (0 : Int32))])) _
    refine XS.istoreN X0.here hx rfl (hb hby own_d2_1) rfl (l' := #[.val (.ref r5), .val (.int q0), .val (.int (0 : Int32)), .unset, .unset, .unset, .unset]) rfl ?_
    show Steps p.tables e below (s₁.setTop (mkF m 2 #[.val (.ref r5), .val (.int q0), .val (.int (0 : Int32)), .unset, .unset, .unset, .unset] [])) _
    refine XS.aloadN X0.here hx rfl (hb hby own_d2_2) rfl rfl ?_
    show Steps p.tables e below (s₁.setTop (mkF m 3 #[.val (.ref r5), .val (.int q0), .val (.int (0 : Int32)), .unset, .unset, .unset, .unset] [(.ref r5)])) _
    refine st1 _ ?_
    show Steps p.tables e below (T1.setTop (mkF m 6 #[.val (.ref r5), .val (.int q0), .val (.int (0 : Int32)), .unset, .unset, .unset, .unset] [(.ref r5_c)])) _
    refine XS.astoreN X1.here hx rfl (hb hby own_d2_6) rfl rfl (l' := #[.val (.ref r5), .val (.int q0), .val (.int (0 : Int32)), .val (.ref r5_c), .unset, .unset, .unset]) rfl ?_
    show Steps p.tables e below (T1.setTop (mkF m 7 #[.val (.ref r5), .val (.int q0), .val (.int (0 : Int32)), .val (.ref r5_c), .unset, .unset, .unset] [])) _
    refine XS.aloadN X1.here hx rfl (hb hby own_d2_7) rfl rfl ?_
    show Steps p.tables e below (T1.setTop (mkF m 8 #[.val (.ref r5), .val (.int q0), .val (.int (0 : Int32)), .val (.ref r5_c), .unset, .unset, .unset] [(.ref r5_c)])) _
    refine X1.arraylength hx (by rw [e1]; exact Ar_r5_c.1) (State.isArrayOf_alike hZ.alike Ar_r5_c.2.1) (g := (mkF m 8 #[.val (.ref r5), .val (.int q0), .val (.int (0 : Int32)), .val (.ref r5_c), .unset, .unset, .unset] [(.ref r5_c)])) rfl rfl (hb hby own_d2_8) _ ?_
    rw [len_of Sz_r5_c (by decide)]
    show Steps p.tables e below (T1.setTop (mkF m 9 #[.val (.ref r5), .val (.int q0), .val (.int (0 : Int32)), .val (.ref r5_c), .unset, .unset, .unset] [(.int (0 : Int32))])) _
    refine XS.istore X1.here hx rfl (hb hby own_d2_9) rfl (l' := #[.val (.ref r5), .val (.int q0), .val (.int (0 : Int32)), .val (.ref r5_c), .val (.int (0 : Int32)), .unset, .unset]) rfl ?_
    show Steps p.tables e below (T1.setTop (mkF m 11 #[.val (.ref r5), .val (.int q0), .val (.int (0 : Int32)), .val (.ref r5_c), .val (.int (0 : Int32)), .unset, .unset] [])) _
    refine XS.iconst X1.here hx rfl (hb hby own_d2_11) ?_
    show Steps p.tables e below (T1.setTop (mkF m 12 #[.val (.ref r5), .val (.int q0), .val (.int (0 : Int32)), .val (.ref r5_c), .val (.int (0 : Int32)), .unset, .unset] [(.int (0 : Int32))])) _
    refine XS.istore X1.here hx rfl (hb hby own_d2_12) rfl (l' := #[.val (.ref r5), .val (.int q0), .val (.int (0 : Int32)), .val (.ref r5_c), .val (.int (0 : Int32)), .val (.int (0 : Int32)), .unset]) rfl ?_
    show Steps p.tables e below (T1.setTop (mkF m 14 #[.val (.ref r5), .val (.int q0), .val (.int (0 : Int32)), .val (.ref r5_c), .val (.int (0 : Int32)), .val (.int (0 : Int32)), .unset] [])) _
    refine XS.iload X1.here hx rfl (hb hby own_d2_14) rfl ?_
    show Steps p.tables e below (T1.setTop (mkF m 16 #[.val (.ref r5), .val (.int q0), .val (.int (0 : Int32)), .val (.ref r5_c), .val (.int (0 : Int32)), .val (.int (0 : Int32)), .unset] [(.int (0 : Int32))])) _
    refine XS.iload X1.here hx rfl (hb hby own_d2_16) rfl ?_
    show Steps p.tables e below (T1.setTop (mkF m 18 #[.val (.ref r5), .val (.int q0), .val (.int (0 : Int32)), .val (.ref r5_c), .val (.int (0 : Int32)), .val (.int (0 : Int32)), .unset] [(.int (0 : Int32)), (.int (0 : Int32))])) _
    refine XS.icmpYes X1.here hx rfl (pc0 := 18) (pc' := 47) rfl (hb hby own_d2_18) rfl (flt (by decide : ¬ ((0 : Int32) < (0 : Int32)))).2.1 (by decide) (by decide) ?_
    show Steps p.tables e below (T1.setTop (mkF m 47 #[.val (.ref r5), .val (.int q0), .val (.int (0 : Int32)), .val (.ref r5_c), .val (.int (0 : Int32)), .val (.int (0 : Int32)), .unset] [])) _
    refine XS.iloadN X1.here hx rfl (hb hby own_d2_47) rfl ?_
    show Steps p.tables e below (T1.setTop (mkF m 48 #[.val (.ref r5), .val (.int q0), .val (.int (0 : Int32)), .val (.ref r5_c), .val (.int (0 : Int32)), .val (.int (0 : Int32)), .unset] [(.int (0 : Int32))])) _
    exact retN X1 hx (t := .boolean) Bd.returns (by simp) (hb hby own_d2_48) hr
  · exact ⟨rfl, N0, e1⟩
set_option maxRecDepth 65536 in
set_option maxHeartbeats 40000000 in
theorem own_r3_55 (l : Launch) (Z : State) (a0 : Array Value) (hw : ∀ d ∈ tables_1, d.before a0 Z = true) (ws : List Jvm.Cond) (r0 : Addr) (r1 : Addr) (r2 : Addr) (r3 : Addr) (r4 : Addr) (r5 : Addr) (r6 : Addr) (r7 : Addr) (r8 : Addr) (r0_c : Addr) (cl_r0_c : Cell) (r1_c : Addr) (cl_r1_c : Cell) (r2_c : Addr) (cl_r2_c : Cell) (r3_c : Addr) (cl_r3_c : Cell) (r4_c : Addr) (cl_r4_c : Cell) (r5_c : Addr) (cl_r5_c : Cell) (r6_c : Addr) (cl_r6_c : Cell) (r7_c : Addr) (cl_r7_c : Cell) (r8_c : Addr) (cl_r8_c : Cell) (h0 : Heap) (n0 : Nat) (Z0 : n0 ≤ h0.size) (F : own_W Z h0 r0 r1 r2 r3 r4 r5 r6 r7 r8 r0_c cl_r0_c r1_c cl_r1_c r2_c cl_r2_c r3_c cl_r3_c r4_c cl_r4_c r5_c cl_r5_c r6_c cl_r6_c r7_c cl_r7_c r8_c cl_r8_c) (q0 : Int32)  :
    MetFree l (⟨"com/example/urbana/urbana/protocol/CommandTakesPinLaw", "expected", "(II)Z"⟩ : MethodName) (head1 (Jvm.Cond.code (⟨"com/example/urbana/urbana/protocol/CommandTakesPinLaw", "expected", "(II)Z"⟩ : MethodName) method_3_code 2 (some .boolean) :: ws) ({ frames := 0, cells := 0, slots := 0, locals := 0 } : Room)) (fun a U => a = #[(.int (7 : Int32)), (.int q0)] ∧ Z.Warmed39 U.vm ∧ U.heap = h0) (fun _ _ _ _ _ => True) (fun _ U o U' => ∃ v L, o = .returned v ∧ own_Q (.int (0 : Int32)) h0 n0 v U'.heap L ∧ FrameEnd U o U' L ({ frames := 0, cells := 0, slots := 0, locals := 0 } : Room).cells ({ frames := 0, cells := 0, slots := 0, locals := 0 } : Room).slots) := by
  obtain ⟨S_r0, E_r0, S_r1, E_r1, S_r2, E_r2, S_r3, E_r3, S_r4, E_r4, S_r5, E_r5, S_r6, E_r6, S_r7, E_r7, S_r8, E_r8, F_r0_counts, Ar_r0_c, F_r1_counts, Ar_r1_c, F_r2_counts, Ar_r2_c, F_r3_counts, Ar_r3_c, F_r4_counts, Ar_r4_c, F_r5_counts, Ar_r5_c, F_r6_counts, Ar_r6_c, F_r7_counts, Ar_r7_c, F_r8_counts, Ar_r8_c, Sz_r0_c, El_r0_c_0, Sz_r1_c, El_r1_c_0, El_r1_c_1, Sz_r2_c, El_r2_c_0, Sz_r3_c, Sz_r4_c, Sz_r5_c, Sz_r6_c, Sz_r7_c, Sz_r8_c⟩ := id F
  refine MetFree.of_bodySF (plainFor_of_name own_pn_CommandTakesPinLaw) hisR ?_
  intro p e s m args below meth c s₁ Bd hml0 hP hK
  obtain ⟨rfl, hZ, hh⟩ := hP
  have hx := Bd.exec
  have hby := Bd.bytes
  have hml : c.maxLocals = 2 := hml0
  have hown : s.vm.findClass "com/example/urbana/urbana/protocol/CommandTakesPinLaw" = some m.cls := findClass_of_methodNamed Bd.named
  have X0 : Stand p l e ({ frames := 0, cells := 0, slots := 0, locals := 0 } : Room) s m #[(.int (7 : Int32)), (.int q0)] below meth c s₁ [] 0 0 := Stand.of_body Bd
  have e0 : s₁.heap = h0 := by rw [← hh, Bd.state]; rfl
  have N0 := Fr.nil n0
  have pre0 : ∀ t, Steps p.tables e below (s₁.setTop (mkF m 0 #[.val (.int (7 : Int32)), .val (.int q0)] [])) t → Steps p.tables e below (s₁.setTop (entryFrame m #[(.int (7 : Int32)), (.int q0)] 2)) t := fun t k => castTop (own_ef3_II m (7 : Int32) q0) k
  obtain ⟨fs, hr, hrun, hended, hW, hsame⟩ := X0.leave (v := some (.int (0 : Int32))) (fun h => by rw [Bd.returns] at h; cases h)
  refine ⟨_, _, pre0 _ ?_, hrun, hended, _, _, rfl, ?_, ⟨_, rfl⟩, hW, hsame.mono (by decide) (by decide)⟩
  · show Steps p.tables e below (s₁.setTop (mkF m 0 #[.val (.int (7 : Int32)), .val (.int q0)] [])) _
    refine XS.iloadN X0.here hx rfl (hb hby own_d3_0) rfl ?_
    show Steps p.tables e below (s₁.setTop (mkF m 1 #[.val (.int (7 : Int32)), .val (.int q0)] [(.int (7 : Int32))])) _
    refine XS.ifYes X0.here hx rfl (pc0 := 1) (pc' := 15) rfl (hb hby own_d3_1) rfl ((if0 _ _).trans (feq (by decide : ¬ ((7 : Int32) = (0 : Int32)))).2) (by decide) (by decide) ?_
    show Steps p.tables e below (s₁.setTop (mkF m 15 #[.val (.int (7 : Int32)), .val (.int q0)] [])) _
    refine XS.iloadN X0.here hx rfl (hb hby own_d3_15) rfl ?_
    show Steps p.tables e below (s₁.setTop (mkF m 16 #[.val (.int (7 : Int32)), .val (.int q0)] [(.int (7 : Int32))])) _
    refine XS.iconst X0.here hx rfl (hb hby own_d3_16) ?_
    show Steps p.tables e below (s₁.setTop (mkF m 17 #[.val (.int (7 : Int32)), .val (.int q0)] [(.int (1 : Int32)), (.int (7 : Int32))])) _
    refine XS.icmpYes X0.here hx rfl (pc0 := 17) (pc' := 35) rfl (hb hby own_d3_17) rfl (feq (by decide : ¬ ((7 : Int32) = (1 : Int32)))).2 (by decide) (by decide) ?_
    show Steps p.tables e below (s₁.setTop (mkF m 35 #[.val (.int (7 : Int32)), .val (.int q0)] [])) _
    refine XS.iloadN X0.here hx rfl (hb hby own_d3_35) rfl ?_
    show Steps p.tables e below (s₁.setTop (mkF m 36 #[.val (.int (7 : Int32)), .val (.int q0)] [(.int (7 : Int32))])) _
    refine XS.iconst X0.here hx rfl (hb hby own_d3_36) ?_
    show Steps p.tables e below (s₁.setTop (mkF m 37 #[.val (.int (7 : Int32)), .val (.int q0)] [(.int (2 : Int32)), (.int (7 : Int32))])) _
    refine XS.icmpYes X0.here hx rfl (pc0 := 37) (pc' := 51) rfl (hb hby own_d3_37) rfl (feq (by decide : ¬ ((7 : Int32) = (2 : Int32)))).2 (by decide) (by decide) ?_
    show Steps p.tables e below (s₁.setTop (mkF m 51 #[.val (.int (7 : Int32)), .val (.int q0)] [])) _
    refine XS.iconst X0.here hx rfl (hb hby own_d3_51) ?_
    show Steps p.tables e below (s₁.setTop (mkF m 52 #[.val (.int (7 : Int32)), .val (.int q0)] [(.int (0 : Int32))])) _
    exact retN X0 hx (t := .boolean) Bd.returns (by simp) (hb hby own_d3_52) hr
  · exact ⟨rfl, N0, e0⟩
set_option maxRecDepth 65536 in
set_option maxHeartbeats 40000000 in
theorem own_r0_k7m0c0 (l : Launch) (Z : State) (a0 : Array Value) (hw : ∀ d ∈ tables_1, d.before a0 Z = true) (ws : List Jvm.Cond) (r0 : Addr) (r1 : Addr) (r2 : Addr) (r3 : Addr) (r4 : Addr) (r5 : Addr) (r6 : Addr) (r7 : Addr) (r8 : Addr) (r0_c : Addr) (cl_r0_c : Cell) (r1_c : Addr) (cl_r1_c : Cell) (r2_c : Addr) (cl_r2_c : Cell) (r3_c : Addr) (cl_r3_c : Cell) (r4_c : Addr) (cl_r4_c : Cell) (r5_c : Addr) (cl_r5_c : Cell) (r6_c : Addr) (cl_r6_c : Cell) (r7_c : Addr) (cl_r7_c : Cell) (r8_c : Addr) (cl_r8_c : Cell) (h0 : Heap) (n0 : Nat) (Z0 : n0 ≤ h0.size) (F : own_W Z h0 r0 r1 r2 r3 r4 r5 r6 r7 r8 r0_c cl_r0_c r1_c cl_r1_c r2_c cl_r2_c r3_c cl_r3_c r4_c cl_r4_c r5_c cl_r5_c r6_c cl_r6_c r7_c cl_r7_c r8_c cl_r8_c) (i0 : Int32) (i1 : Int32) (i2 : Int32) (hk : ((i0 &&& (2147483647 : Int32)) % (9 : Int32)) = (7 : Int32)) (hm : (i1 &&& (1 : Int32)) = (0 : Int32)) :
    MetFree l x (head1 (Jvm.Cond.code x code maxLocals ret :: ws) room_1) (fun a U => a = #[(.int i0), (.int i1), (.int i2)] ∧ Z.Warmed39 U.vm ∧ U.heap = h0) (fun _ _ _ _ _ => True) (fun _ U o U' => ∃ v L, o = .returned v ∧ own_Q (.int (1 : Int32)) h0 n0 v U'.heap L ∧ FrameEnd U o U' L room_1.cells room_1.slots) := by
  obtain ⟨S_r0, E_r0, S_r1, E_r1, S_r2, E_r2, S_r3, E_r3, S_r4, E_r4, S_r5, E_r5, S_r6, E_r6, S_r7, E_r7, S_r8, E_r8, F_r0_counts, Ar_r0_c, F_r1_counts, Ar_r1_c, F_r2_counts, Ar_r2_c, F_r3_counts, Ar_r3_c, F_r4_counts, Ar_r4_c, F_r5_counts, Ar_r5_c, F_r6_counts, Ar_r6_c, F_r7_counts, Ar_r7_c, F_r8_counts, Ar_r8_c, Sz_r0_c, El_r0_c_0, Sz_r1_c, El_r1_c_0, El_r1_c_1, Sz_r2_c, El_r2_c_0, Sz_r3_c, Sz_r4_c, Sz_r5_c, Sz_r6_c, Sz_r7_c, Sz_r8_c⟩ := id F
  refine MetFree.of_bodySF (plainFor_of_name own_pn_CommandTakesPinLaw) hisR ?_
  intro p e s m args below meth c s₁ Bd hml0 hP hK
  obtain ⟨rfl, hZ, hh⟩ := hP
  have hx := Bd.exec
  have hby := Bd.bytes
  have hml : c.maxLocals = 6 := hml0
  have hown : s.vm.findClass "com/example/urbana/urbana/protocol/CommandTakesPinLaw" = some m.cls := findClass_of_methodNamed Bd.named
  have X0 : Stand p l e room_1 s m #[(.int i0), (.int i1), (.int i2)] below meth c s₁ [] 0 0 := Stand.of_body Bd
  have e0 : s₁.heap = h0 := by rw [← hh, Bd.state]; rfl
  have N0 := Fr.nil n0
  have pre0 : ∀ t, Steps p.tables e below (s₁.setTop (mkF m 0 #[.val (.int i0), .val (.int i1), .val (.int i2), .unset, .unset, .unset] [])) t → Steps p.tables e below (s₁.setTop (entryFrame m #[(.int i0), (.int i1), (.int i2)] maxLocals)) t := fun t k => castTop (own_ef0_III m i0 i1 i2) k
  obtain ⟨_, _, ⟨T1, L1, k1, n1⟩, -, X1, ⟨Lc1, hQ1, l1, y1, z1⟩, st1⟩ := Jvm.LawKit.callS X0 hx (y := (⟨"com/example/urbana/urbana/protocol/CommandTakesPinLaw", "pick", "(I)Lcom/example/urbana/urbana/protocol/Command;"⟩ : MethodName)) hown (mvT hZ (hw _ (List.mem_of_getElem? (i := 1) rfl))) (mvT hZ (hw _ (List.mem_of_getElem? (i := 2) rfl))) (mvT hZ (hw _ (List.mem_of_getElem? (i := 3) rfl))) (mvT hZ (hw _ (List.mem_of_getElem? (i := 4) rfl))) (by decide) (backOf (W := 0) (own_r1_53 l Z a0 hw [] r0 r1 r2 r3 r4 r5 r6 r7 r8 r0_c cl_r0_c r1_c cl_r1_c r2_c cl_r2_c r3_c cl_r3_c r4_c cl_r4_c r5_c cl_r5_c r6_c cl_r6_c r7_c cl_r7_c r8_c cl_r8_c h0 n0 Z0 F ) hZ (hw _ (List.mem_of_getElem? (i := 4) rfl)) (hw _ (List.mem_of_getElem? (i := 3) rfl)) (by decide) (by decide)) (g := (mkF m 29 #[.val (.int i0), .val (.int i1), .val (.int i2), .val (.int (7 : Int32)), .val (.int i2), .unset] [(.int (7 : Int32))])) rfl (by rw [hml]; rfl) (argsL := [(.int (7 : Int32))]) (rest := []) (lenOf own_pd0 rfl) rfl (by show 2 * 0 + _ ≤ _; exact Nat.le_of_eq rfl) (hb hby at_29) (fun _ _ => ⟨rfl, e0, (by decide : 0 + 0 ≤ _), (by decide : 0 + 0 ≤ _)⟩)
  dsimp only [Pt.U, Pt.locs, Pt.cells, Pt.slots] at X1 l1 y1 z1 st1 hQ1
  subst l1 y1 z1
  obtain ⟨rfl, N1q, e1⟩ := hQ1
  have N1 := Fr.app N0 N1q
  obtain ⟨cq2, kq2, q2a, q2b, q2c⟩ := isOf hZ e1 E_r5
  obtain ⟨_, _, ⟨T2, L2, k2, n2⟩, -, X2, ⟨Lc2, hQ2, l2, y2, z2⟩, st2⟩ := X1.virtualBack hx (y := (⟨"com/example/urbana/urbana/protocol/Command", "takes", "(I)Z"⟩ : MethodName)) (z := (⟨"com/example/urbana/urbana/protocol/Command", "takes", "(I)Z"⟩ : MethodName)) hown (mvT hZ (hw _ (List.mem_of_getElem? (i := 8) rfl))) (mvT hZ (hw _ (List.mem_of_getElem? (i := 9) rfl))) (notFace_of_selects (args := #[]) (mvT hZ (hw _ (List.mem_of_getElem? (i := 11) rfl)))) (mvT hZ (hw _ (List.mem_of_getElem? (i := 11) rfl))) (mvT hZ (hw _ (List.mem_of_getElem? (i := 10) rfl))) (by decide) (backOf (W := 0) (own_r2_54 l Z a0 hw [] r0 r1 r2 r3 r4 r5 r6 r7 r8 r0_c cl_r0_c r1_c cl_r1_c r2_c cl_r2_c r3_c cl_r3_c r4_c cl_r4_c r5_c cl_r5_c r6_c cl_r6_c r7_c cl_r7_c r8_c cl_r8_c h0 n0 Z0 F i2) hZ (hw _ (List.mem_of_getElem? (i := 12) rfl)) (hw _ (List.mem_of_getElem? (i := 6) rfl)) (by decide) (by decide)) q2a q2c (g := (mkF m 38 #[.val (.int i0), .val (.int i1), .val (.int i2), .val (.int (7 : Int32)), .val (.int i2), .val (.ref r5)] [(.int i2), (.ref r5)])) rfl (by rw [hml]; rfl) (Steps.refl _) (argsL := [(.int i2)]) (rest := []) (lenOf own_pd1 rfl) rfl (by show 2 * 0 + _ ≤ _; exact Nat.le_of_eq rfl) (hb hby at_38) (fun _ _ => ⟨rfl, e1, (by decide : 0 + 0 ≤ _), (by decide : 0 + 0 ≤ _)⟩)
  dsimp only [Pt.U, Pt.locs, Pt.cells, Pt.slots] at X2 l2 y2 z2 st2 hQ2
  subst l2 y2 z2
  obtain ⟨rfl, N2q, e2⟩ := hQ2
  have N2 := Fr.app N1 N2q
  obtain ⟨_, _, ⟨T3, L3, k3, n3⟩, -, X3, ⟨Lc3, hQ3, l3, y3, z3⟩, st3⟩ := Jvm.LawKit.callS X2 hx (y := (⟨"com/example/urbana/urbana/protocol/CommandTakesPinLaw", "expected", "(II)Z"⟩ : MethodName)) hown (mvT hZ (hw _ (List.mem_of_getElem? (i := 15) rfl))) (mvT hZ (hw _ (List.mem_of_getElem? (i := 16) rfl))) (mvT hZ (hw _ (List.mem_of_getElem? (i := 3) rfl))) (mvT hZ (hw _ (List.mem_of_getElem? (i := 17) rfl))) (by decide) (backOf (W := 1) (own_r3_55 l Z a0 hw [] r0 r1 r2 r3 r4 r5 r6 r7 r8 r0_c cl_r0_c r1_c cl_r1_c r2_c cl_r2_c r3_c cl_r3_c r4_c cl_r4_c r5_c cl_r5_c r6_c cl_r6_c r7_c cl_r7_c r8_c cl_r8_c h0 n0 Z0 F i2) hZ (hw _ (List.mem_of_getElem? (i := 17) rfl)) (hw _ (List.mem_of_getElem? (i := 3) rfl)) (by decide) (by decide)) (g := (mkF m 44 #[.val (.int i0), .val (.int i1), .val (.int i2), .val (.int (7 : Int32)), .val (.int i2), .val (.ref r5)] [(.int i2), (.int (7 : Int32)), (.int (0 : Int32))])) rfl (by rw [hml]; rfl) (argsL := [(.int (7 : Int32)), (.int i2)]) (rest := [(.int (0 : Int32))]) (lenOf own_pd2 rfl) rfl (by show 2 * 0 + _ ≤ _; exact Nat.le_of_eq rfl) (hb hby at_44) (fun _ _ => ⟨rfl, e2, (by decide : 0 + 0 ≤ _), (by decide : 0 + 0 ≤ _)⟩)
  dsimp only [Pt.U, Pt.locs, Pt.cells, Pt.slots] at X3 l3 y3 z3 st3 hQ3
  subst l3 y3 z3
  obtain ⟨rfl, N3q, e3⟩ := hQ3
  have N3 := Fr.app N2 N3q
  obtain ⟨fs, hr, hrun, hended, hW, hsame⟩ := X3.leave (v := some (.int (1 : Int32))) (fun h => by rw [Bd.returns] at h; cases h)
  refine ⟨_, _, pre0 _ ?_, hrun, hended, _, _, rfl, ?_, ⟨_, rfl⟩, hW, hsame.mono (by decide) (by decide)⟩
  · show Steps p.tables e below (s₁.setTop (mkF m 0 #[.val (.int i0), .val (.int i1), .val (.int i2), .unset, .unset, .unset] [])) _
    refine XS.iloadN X0.here hx rfl (hb hby at_0) rfl ?_
    show Steps p.tables e below (s₁.setTop (mkF m 1 #[.val (.int i0), .val (.int i1), .val (.int i2), .unset, .unset, .unset] [(.int i0)])) _
    refine X0.ldcInt hx hown (mvT hZ (hw _ (List.mem_of_getElem? (i := 0) rfl))) (g := (mkF m 1 #[.val (.int i0), .val (.int i1), .val (.int i2), .unset, .unset, .unset] [(.int i0)])) rfl (hb hby at_1) _ ?_
    show Steps p.tables e below (s₁.setTop (mkF m 3 #[.val (.int i0), .val (.int i1), .val (.int i2), .unset, .unset, .unset] [(.int (2147483647 : Int32)), (.int i0)])) _
    refine XS.iand X0.here hx rfl (hb hby at_3) rfl ?_
    show Steps p.tables e below (s₁.setTop (mkF m 4 #[.val (.int i0), .val (.int i1), .val (.int i2), .unset, .unset, .unset] [(.int (i0 &&& (2147483647 : Int32)))])) _
    refine XS.bipush X0.here hx rfl (hb hby at_4) ?_
    show Steps p.tables e below (s₁.setTop (mkF m 6 #[.val (.int i0), .val (.int i1), .val (.int i2), .unset, .unset, .unset] [(.int (9 : Int32)), (.int (i0 &&& (2147483647 : Int32)))])) _
    refine iremM (g := (mkF m 6 #[.val (.int i0), .val (.int i1), .val (.int i2), .unset, .unset, .unset] [(.int (9 : Int32)), (.int (i0 &&& (2147483647 : Int32)))])) X0 hx rfl (hb hby at_6) rfl (by decide) ?_
    show Steps p.tables e below (s₁.setTop (mkF m 7 #[.val (.int i0), .val (.int i1), .val (.int i2), .unset, .unset, .unset] [(.int ((i0 &&& (2147483647 : Int32)) % (9 : Int32)))])) _
    rw [hk]
    show Steps p.tables e below (s₁.setTop (mkF m 7 #[.val (.int i0), .val (.int i1), .val (.int i2), .unset, .unset, .unset] [(.int (7 : Int32))])) _
    refine XS.istoreN X0.here hx rfl (hb hby at_7) rfl (l' := #[.val (.int i0), .val (.int i1), .val (.int i2), .val (.int (7 : Int32)), .unset, .unset]) rfl ?_
    show Steps p.tables e below (s₁.setTop (mkF m 8 #[.val (.int i0), .val (.int i1), .val (.int i2), .val (.int (7 : Int32)), .unset, .unset] [])) _
    refine XS.iloadN X0.here hx rfl (hb hby at_8) rfl ?_
    show Steps p.tables e below (s₁.setTop (mkF m 9 #[.val (.int i0), .val (.int i1), .val (.int i2), .val (.int (7 : Int32)), .unset, .unset] [(.int i1)])) _
    refine XS.iconst X0.here hx rfl (hb hby at_9) ?_
    show Steps p.tables e below (s₁.setTop (mkF m 10 #[.val (.int i0), .val (.int i1), .val (.int i2), .val (.int (7 : Int32)), .unset, .unset] [(.int (1 : Int32)), (.int i1)])) _
    refine XS.iand X0.here hx rfl (hb hby at_10) rfl ?_
    show Steps p.tables e below (s₁.setTop (mkF m 11 #[.val (.int i0), .val (.int i1), .val (.int i2), .val (.int (7 : Int32)), .unset, .unset] [(.int (i1 &&& (1 : Int32)))])) _
    rw [hm]
    show Steps p.tables e below (s₁.setTop (mkF m 11 #[.val (.int i0), .val (.int i1), .val (.int i2), .val (.int (7 : Int32)), .unset, .unset] [(.int (0 : Int32))])) _
    refine XS.ifYes X0.here hx rfl (pc0 := 11) (pc' := 25) rfl (hb hby at_11) rfl ((if0 _ _).trans (teq (by decide : (0 : Int32) = (0 : Int32))).1) (by decide) (by decide) ?_
    show Steps p.tables e below (s₁.setTop (mkF m 25 #[.val (.int i0), .val (.int i1), .val (.int i2), .val (.int (7 : Int32)), .unset, .unset] [])) _
    refine XS.iloadN X0.here hx rfl (hb hby at_25) rfl ?_
    show Steps p.tables e below (s₁.setTop (mkF m 26 #[.val (.int i0), .val (.int i1), .val (.int i2), .val (.int (7 : Int32)), .unset, .unset] [(.int i2)])) _
    refine XS.istore X0.here hx rfl (hb hby at_26) rfl (l' := #[.val (.int i0), .val (.int i1), .val (.int i2), .val (.int (7 : Int32)), .val (.int i2), .unset]) rfl ?_
    show Steps p.tables e below (s₁.setTop (mkF m 28 #[.val (.int i0), .val (.int i1), .val (.int i2), .val (.int (7 : Int32)), .val (.int i2), .unset] [])) _
    refine XS.iloadN X0.here hx rfl (hb hby at_28) rfl ?_
    show Steps p.tables e below (s₁.setTop (mkF m 29 #[.val (.int i0), .val (.int i1), .val (.int i2), .val (.int (7 : Int32)), .val (.int i2), .unset] [(.int (7 : Int32))])) _
    refine st1 _ ?_
    show Steps p.tables e below (T1.setTop (mkF m 32 #[.val (.int i0), .val (.int i1), .val (.int i2), .val (.int (7 : Int32)), .val (.int i2), .unset] [(.ref r5)])) _
    refine XS.astore X1.here hx rfl (hb hby at_32) rfl rfl (l' := #[.val (.int i0), .val (.int i1), .val (.int i2), .val (.int (7 : Int32)), .val (.int i2), .val (.ref r5)]) rfl ?_
    show Steps p.tables e below (T1.setTop (mkF m 34 #[.val (.int i0), .val (.int i1), .val (.int i2), .val (.int (7 : Int32)), .val (.int i2), .val (.ref r5)] [])) _
    refine XS.aload X1.here hx rfl (hb hby at_34) rfl rfl ?_
    show Steps p.tables e below (T1.setTop (mkF m 36 #[.val (.int i0), .val (.int i1), .val (.int i2), .val (.int (7 : Int32)), .val (.int i2), .val (.ref r5)] [(.ref r5)])) _
    refine XS.iload X1.here hx rfl (hb hby at_36) rfl ?_
    show Steps p.tables e below (T1.setTop (mkF m 38 #[.val (.int i0), .val (.int i1), .val (.int i2), .val (.int (7 : Int32)), .val (.int i2), .val (.ref r5)] [(.int i2), (.ref r5)])) _
    refine st2.trans ?_
    show Steps p.tables e below (T2.setTop (mkF m 41 #[.val (.int i0), .val (.int i1), .val (.int i2), .val (.int (7 : Int32)), .val (.int i2), .val (.ref r5)] [(.int (0 : Int32))])) _
    refine XS.iloadN X2.here hx rfl (hb hby at_41) rfl ?_
    show Steps p.tables e below (T2.setTop (mkF m 42 #[.val (.int i0), .val (.int i1), .val (.int i2), .val (.int (7 : Int32)), .val (.int i2), .val (.ref r5)] [(.int (7 : Int32)), (.int (0 : Int32))])) _
    refine XS.iload X2.here hx rfl (hb hby at_42) rfl ?_
    show Steps p.tables e below (T2.setTop (mkF m 44 #[.val (.int i0), .val (.int i1), .val (.int i2), .val (.int (7 : Int32)), .val (.int i2), .val (.ref r5)] [(.int i2), (.int (7 : Int32)), (.int (0 : Int32))])) _
    refine st3 _ ?_
    show Steps p.tables e below (T3.setTop (mkF m 47 #[.val (.int i0), .val (.int i1), .val (.int i2), .val (.int (7 : Int32)), .val (.int i2), .val (.ref r5)] [(.int (0 : Int32)), (.int (0 : Int32))])) _
    refine XS.icmpNo X3.here hx rfl (hb hby at_47) rfl (teq (by decide : (0 : Int32) = (0 : Int32))).2 ?_
    show Steps p.tables e below (T3.setTop (mkF m 50 #[.val (.int i0), .val (.int i1), .val (.int i2), .val (.int (7 : Int32)), .val (.int i2), .val (.ref r5)] [])) _
    refine XS.iconst X3.here hx rfl (hb hby at_50) ?_
    show Steps p.tables e below (T3.setTop (mkF m 51 #[.val (.int i0), .val (.int i1), .val (.int i2), .val (.int (7 : Int32)), .val (.int i2), .val (.ref r5)] [(.int (1 : Int32))])) _
    refine XS.goto X3.here hx rfl (pc0 := 51) (pc' := 55) rfl (hb hby at_51) (by decide) (by decide) ?_
    show Steps p.tables e below (T3.setTop (mkF m 55 #[.val (.int i0), .val (.int i1), .val (.int i2), .val (.int (7 : Int32)), .val (.int i2), .val (.ref r5)] [(.int (1 : Int32))])) _
    exact retN X3 hx (t := .boolean) Bd.returns (by simp) (hb hby at_55) hr
  · exact ⟨rfl, N3, e3⟩
set_option maxRecDepth 65536 in
set_option maxHeartbeats 40000000 in
theorem own_r0_k7m1c0 (l : Launch) (Z : State) (a0 : Array Value) (hw : ∀ d ∈ tables_1, d.before a0 Z = true) (ws : List Jvm.Cond) (r0 : Addr) (r1 : Addr) (r2 : Addr) (r3 : Addr) (r4 : Addr) (r5 : Addr) (r6 : Addr) (r7 : Addr) (r8 : Addr) (r0_c : Addr) (cl_r0_c : Cell) (r1_c : Addr) (cl_r1_c : Cell) (r2_c : Addr) (cl_r2_c : Cell) (r3_c : Addr) (cl_r3_c : Cell) (r4_c : Addr) (cl_r4_c : Cell) (r5_c : Addr) (cl_r5_c : Cell) (r6_c : Addr) (cl_r6_c : Cell) (r7_c : Addr) (cl_r7_c : Cell) (r8_c : Addr) (cl_r8_c : Cell) (h0 : Heap) (n0 : Nat) (Z0 : n0 ≤ h0.size) (F : own_W Z h0 r0 r1 r2 r3 r4 r5 r6 r7 r8 r0_c cl_r0_c r1_c cl_r1_c r2_c cl_r2_c r3_c cl_r3_c r4_c cl_r4_c r5_c cl_r5_c r6_c cl_r6_c r7_c cl_r7_c r8_c cl_r8_c) (i0 : Int32) (i1 : Int32) (i2 : Int32) (hk : ((i0 &&& (2147483647 : Int32)) % (9 : Int32)) = (7 : Int32)) (hm : (i1 &&& (1 : Int32)) = (1 : Int32)) :
    MetFree l x (head1 (Jvm.Cond.code x code maxLocals ret :: ws) room_1) (fun a U => a = #[(.int i0), (.int i1), (.int i2)] ∧ Z.Warmed39 U.vm ∧ U.heap = h0) (fun _ _ _ _ _ => True) (fun _ U o U' => ∃ v L, o = .returned v ∧ own_Q (.int (1 : Int32)) h0 n0 v U'.heap L ∧ FrameEnd U o U' L room_1.cells room_1.slots) := by
  obtain ⟨S_r0, E_r0, S_r1, E_r1, S_r2, E_r2, S_r3, E_r3, S_r4, E_r4, S_r5, E_r5, S_r6, E_r6, S_r7, E_r7, S_r8, E_r8, F_r0_counts, Ar_r0_c, F_r1_counts, Ar_r1_c, F_r2_counts, Ar_r2_c, F_r3_counts, Ar_r3_c, F_r4_counts, Ar_r4_c, F_r5_counts, Ar_r5_c, F_r6_counts, Ar_r6_c, F_r7_counts, Ar_r7_c, F_r8_counts, Ar_r8_c, Sz_r0_c, El_r0_c_0, Sz_r1_c, El_r1_c_0, El_r1_c_1, Sz_r2_c, El_r2_c_0, Sz_r3_c, Sz_r4_c, Sz_r5_c, Sz_r6_c, Sz_r7_c, Sz_r8_c⟩ := id F
  refine MetFree.of_bodySF (plainFor_of_name own_pn_CommandTakesPinLaw) hisR ?_
  intro p e s m args below meth c s₁ Bd hml0 hP hK
  obtain ⟨rfl, hZ, hh⟩ := hP
  have hx := Bd.exec
  have hby := Bd.bytes
  have hml : c.maxLocals = 6 := hml0
  have hown : s.vm.findClass "com/example/urbana/urbana/protocol/CommandTakesPinLaw" = some m.cls := findClass_of_methodNamed Bd.named
  have X0 : Stand p l e room_1 s m #[(.int i0), (.int i1), (.int i2)] below meth c s₁ [] 0 0 := Stand.of_body Bd
  have e0 : s₁.heap = h0 := by rw [← hh, Bd.state]; rfl
  have N0 := Fr.nil n0
  have pre0 : ∀ t, Steps p.tables e below (s₁.setTop (mkF m 0 #[.val (.int i0), .val (.int i1), .val (.int i2), .unset, .unset, .unset] [])) t → Steps p.tables e below (s₁.setTop (entryFrame m #[(.int i0), (.int i1), (.int i2)] maxLocals)) t := fun t k => castTop (own_ef0_III m i0 i1 i2) k
  obtain ⟨_, _, ⟨T1, L1, k1, n1⟩, -, X1, ⟨Lc1, hQ1, l1, y1, z1⟩, st1⟩ := Jvm.LawKit.callS X0 hx (y := (⟨"com/example/urbana/urbana/protocol/CommandTakesPinLaw", "pick", "(I)Lcom/example/urbana/urbana/protocol/Command;"⟩ : MethodName)) hown (mvT hZ (hw _ (List.mem_of_getElem? (i := 1) rfl))) (mvT hZ (hw _ (List.mem_of_getElem? (i := 2) rfl))) (mvT hZ (hw _ (List.mem_of_getElem? (i := 3) rfl))) (mvT hZ (hw _ (List.mem_of_getElem? (i := 4) rfl))) (by decide) (backOf (W := 0) (own_r1_53 l Z a0 hw [] r0 r1 r2 r3 r4 r5 r6 r7 r8 r0_c cl_r0_c r1_c cl_r1_c r2_c cl_r2_c r3_c cl_r3_c r4_c cl_r4_c r5_c cl_r5_c r6_c cl_r6_c r7_c cl_r7_c r8_c cl_r8_c h0 n0 Z0 F ) hZ (hw _ (List.mem_of_getElem? (i := 4) rfl)) (hw _ (List.mem_of_getElem? (i := 3) rfl)) (by decide) (by decide)) (g := (mkF m 29 #[.val (.int i0), .val (.int i1), .val (.int i2), .val (.int (7 : Int32)), .val (.int (((i1 >>> ((1 : Int32) &&& 31)) &&& (7 : Int32)) - (2 : Int32))), .unset] [(.int (7 : Int32))])) rfl (by rw [hml]; rfl) (argsL := [(.int (7 : Int32))]) (rest := []) (lenOf own_pd0 rfl) rfl (by show 2 * 0 + _ ≤ _; exact Nat.le_of_eq rfl) (hb hby at_29) (fun _ _ => ⟨rfl, e0, (by decide : 0 + 0 ≤ _), (by decide : 0 + 0 ≤ _)⟩)
  dsimp only [Pt.U, Pt.locs, Pt.cells, Pt.slots] at X1 l1 y1 z1 st1 hQ1
  subst l1 y1 z1
  obtain ⟨rfl, N1q, e1⟩ := hQ1
  have N1 := Fr.app N0 N1q
  obtain ⟨cq2, kq2, q2a, q2b, q2c⟩ := isOf hZ e1 E_r5
  obtain ⟨_, _, ⟨T2, L2, k2, n2⟩, -, X2, ⟨Lc2, hQ2, l2, y2, z2⟩, st2⟩ := X1.virtualBack hx (y := (⟨"com/example/urbana/urbana/protocol/Command", "takes", "(I)Z"⟩ : MethodName)) (z := (⟨"com/example/urbana/urbana/protocol/Command", "takes", "(I)Z"⟩ : MethodName)) hown (mvT hZ (hw _ (List.mem_of_getElem? (i := 8) rfl))) (mvT hZ (hw _ (List.mem_of_getElem? (i := 9) rfl))) (notFace_of_selects (args := #[]) (mvT hZ (hw _ (List.mem_of_getElem? (i := 11) rfl)))) (mvT hZ (hw _ (List.mem_of_getElem? (i := 11) rfl))) (mvT hZ (hw _ (List.mem_of_getElem? (i := 10) rfl))) (by decide) (backOf (W := 0) (own_r2_54 l Z a0 hw [] r0 r1 r2 r3 r4 r5 r6 r7 r8 r0_c cl_r0_c r1_c cl_r1_c r2_c cl_r2_c r3_c cl_r3_c r4_c cl_r4_c r5_c cl_r5_c r6_c cl_r6_c r7_c cl_r7_c r8_c cl_r8_c h0 n0 Z0 F (((i1 >>> ((1 : Int32) &&& 31)) &&& (7 : Int32)) - (2 : Int32))) hZ (hw _ (List.mem_of_getElem? (i := 12) rfl)) (hw _ (List.mem_of_getElem? (i := 6) rfl)) (by decide) (by decide)) q2a q2c (g := (mkF m 38 #[.val (.int i0), .val (.int i1), .val (.int i2), .val (.int (7 : Int32)), .val (.int (((i1 >>> ((1 : Int32) &&& 31)) &&& (7 : Int32)) - (2 : Int32))), .val (.ref r5)] [(.int (((i1 >>> ((1 : Int32) &&& 31)) &&& (7 : Int32)) - (2 : Int32))), (.ref r5)])) rfl (by rw [hml]; rfl) (Steps.refl _) (argsL := [(.int (((i1 >>> ((1 : Int32) &&& 31)) &&& (7 : Int32)) - (2 : Int32)))]) (rest := []) (lenOf own_pd1 rfl) rfl (by show 2 * 0 + _ ≤ _; exact Nat.le_of_eq rfl) (hb hby at_38) (fun _ _ => ⟨rfl, e1, (by decide : 0 + 0 ≤ _), (by decide : 0 + 0 ≤ _)⟩)
  dsimp only [Pt.U, Pt.locs, Pt.cells, Pt.slots] at X2 l2 y2 z2 st2 hQ2
  subst l2 y2 z2
  obtain ⟨rfl, N2q, e2⟩ := hQ2
  have N2 := Fr.app N1 N2q
  obtain ⟨_, _, ⟨T3, L3, k3, n3⟩, -, X3, ⟨Lc3, hQ3, l3, y3, z3⟩, st3⟩ := Jvm.LawKit.callS X2 hx (y := (⟨"com/example/urbana/urbana/protocol/CommandTakesPinLaw", "expected", "(II)Z"⟩ : MethodName)) hown (mvT hZ (hw _ (List.mem_of_getElem? (i := 15) rfl))) (mvT hZ (hw _ (List.mem_of_getElem? (i := 16) rfl))) (mvT hZ (hw _ (List.mem_of_getElem? (i := 3) rfl))) (mvT hZ (hw _ (List.mem_of_getElem? (i := 17) rfl))) (by decide) (backOf (W := 1) (own_r3_55 l Z a0 hw [] r0 r1 r2 r3 r4 r5 r6 r7 r8 r0_c cl_r0_c r1_c cl_r1_c r2_c cl_r2_c r3_c cl_r3_c r4_c cl_r4_c r5_c cl_r5_c r6_c cl_r6_c r7_c cl_r7_c r8_c cl_r8_c h0 n0 Z0 F (((i1 >>> ((1 : Int32) &&& 31)) &&& (7 : Int32)) - (2 : Int32))) hZ (hw _ (List.mem_of_getElem? (i := 17) rfl)) (hw _ (List.mem_of_getElem? (i := 3) rfl)) (by decide) (by decide)) (g := (mkF m 44 #[.val (.int i0), .val (.int i1), .val (.int i2), .val (.int (7 : Int32)), .val (.int (((i1 >>> ((1 : Int32) &&& 31)) &&& (7 : Int32)) - (2 : Int32))), .val (.ref r5)] [(.int (((i1 >>> ((1 : Int32) &&& 31)) &&& (7 : Int32)) - (2 : Int32))), (.int (7 : Int32)), (.int (0 : Int32))])) rfl (by rw [hml]; rfl) (argsL := [(.int (7 : Int32)), (.int (((i1 >>> ((1 : Int32) &&& 31)) &&& (7 : Int32)) - (2 : Int32)))]) (rest := [(.int (0 : Int32))]) (lenOf own_pd2 rfl) rfl (by show 2 * 0 + _ ≤ _; exact Nat.le_of_eq rfl) (hb hby at_44) (fun _ _ => ⟨rfl, e2, (by decide : 0 + 0 ≤ _), (by decide : 0 + 0 ≤ _)⟩)
  dsimp only [Pt.U, Pt.locs, Pt.cells, Pt.slots] at X3 l3 y3 z3 st3 hQ3
  subst l3 y3 z3
  obtain ⟨rfl, N3q, e3⟩ := hQ3
  have N3 := Fr.app N2 N3q
  obtain ⟨fs, hr, hrun, hended, hW, hsame⟩ := X3.leave (v := some (.int (1 : Int32))) (fun h => by rw [Bd.returns] at h; cases h)
  refine ⟨_, _, pre0 _ ?_, hrun, hended, _, _, rfl, ?_, ⟨_, rfl⟩, hW, hsame.mono (by decide) (by decide)⟩
  · show Steps p.tables e below (s₁.setTop (mkF m 0 #[.val (.int i0), .val (.int i1), .val (.int i2), .unset, .unset, .unset] [])) _
    refine XS.iloadN X0.here hx rfl (hb hby at_0) rfl ?_
    show Steps p.tables e below (s₁.setTop (mkF m 1 #[.val (.int i0), .val (.int i1), .val (.int i2), .unset, .unset, .unset] [(.int i0)])) _
    refine X0.ldcInt hx hown (mvT hZ (hw _ (List.mem_of_getElem? (i := 0) rfl))) (g := (mkF m 1 #[.val (.int i0), .val (.int i1), .val (.int i2), .unset, .unset, .unset] [(.int i0)])) rfl (hb hby at_1) _ ?_
    show Steps p.tables e below (s₁.setTop (mkF m 3 #[.val (.int i0), .val (.int i1), .val (.int i2), .unset, .unset, .unset] [(.int (2147483647 : Int32)), (.int i0)])) _
    refine XS.iand X0.here hx rfl (hb hby at_3) rfl ?_
    show Steps p.tables e below (s₁.setTop (mkF m 4 #[.val (.int i0), .val (.int i1), .val (.int i2), .unset, .unset, .unset] [(.int (i0 &&& (2147483647 : Int32)))])) _
    refine XS.bipush X0.here hx rfl (hb hby at_4) ?_
    show Steps p.tables e below (s₁.setTop (mkF m 6 #[.val (.int i0), .val (.int i1), .val (.int i2), .unset, .unset, .unset] [(.int (9 : Int32)), (.int (i0 &&& (2147483647 : Int32)))])) _
    refine iremM (g := (mkF m 6 #[.val (.int i0), .val (.int i1), .val (.int i2), .unset, .unset, .unset] [(.int (9 : Int32)), (.int (i0 &&& (2147483647 : Int32)))])) X0 hx rfl (hb hby at_6) rfl (by decide) ?_
    show Steps p.tables e below (s₁.setTop (mkF m 7 #[.val (.int i0), .val (.int i1), .val (.int i2), .unset, .unset, .unset] [(.int ((i0 &&& (2147483647 : Int32)) % (9 : Int32)))])) _
    rw [hk]
    show Steps p.tables e below (s₁.setTop (mkF m 7 #[.val (.int i0), .val (.int i1), .val (.int i2), .unset, .unset, .unset] [(.int (7 : Int32))])) _
    refine XS.istoreN X0.here hx rfl (hb hby at_7) rfl (l' := #[.val (.int i0), .val (.int i1), .val (.int i2), .val (.int (7 : Int32)), .unset, .unset]) rfl ?_
    show Steps p.tables e below (s₁.setTop (mkF m 8 #[.val (.int i0), .val (.int i1), .val (.int i2), .val (.int (7 : Int32)), .unset, .unset] [])) _
    refine XS.iloadN X0.here hx rfl (hb hby at_8) rfl ?_
    show Steps p.tables e below (s₁.setTop (mkF m 9 #[.val (.int i0), .val (.int i1), .val (.int i2), .val (.int (7 : Int32)), .unset, .unset] [(.int i1)])) _
    refine XS.iconst X0.here hx rfl (hb hby at_9) ?_
    show Steps p.tables e below (s₁.setTop (mkF m 10 #[.val (.int i0), .val (.int i1), .val (.int i2), .val (.int (7 : Int32)), .unset, .unset] [(.int (1 : Int32)), (.int i1)])) _
    refine XS.iand X0.here hx rfl (hb hby at_10) rfl ?_
    show Steps p.tables e below (s₁.setTop (mkF m 11 #[.val (.int i0), .val (.int i1), .val (.int i2), .val (.int (7 : Int32)), .unset, .unset] [(.int (i1 &&& (1 : Int32)))])) _
    rw [hm]
    show Steps p.tables e below (s₁.setTop (mkF m 11 #[.val (.int i0), .val (.int i1), .val (.int i2), .val (.int (7 : Int32)), .unset, .unset] [(.int (1 : Int32))])) _
    refine XS.ifNo X0.here hx rfl (hb hby at_11) rfl ((if0 _ _).trans (feq (by decide : ¬ ((1 : Int32) = (0 : Int32)))).1) ?_
    show Steps p.tables e below (s₁.setTop (mkF m 14 #[.val (.int i0), .val (.int i1), .val (.int i2), .val (.int (7 : Int32)), .unset, .unset] [])) _
    refine XS.iloadN X0.here hx rfl (hb hby at_14) rfl ?_
    show Steps p.tables e below (s₁.setTop (mkF m 15 #[.val (.int i0), .val (.int i1), .val (.int i2), .val (.int (7 : Int32)), .unset, .unset] [(.int i1)])) _
    refine XS.iconst X0.here hx rfl (hb hby at_15) ?_
    show Steps p.tables e below (s₁.setTop (mkF m 16 #[.val (.int i0), .val (.int i1), .val (.int i2), .val (.int (7 : Int32)), .unset, .unset] [(.int (1 : Int32)), (.int i1)])) _
    refine XS.ishr X0.here hx rfl (hb hby at_16) rfl ?_
    show Steps p.tables e below (s₁.setTop (mkF m 17 #[.val (.int i0), .val (.int i1), .val (.int i2), .val (.int (7 : Int32)), .unset, .unset] [(.int (i1 >>> ((1 : Int32) &&& 31)))])) _
    refine XS.bipush X0.here hx rfl (hb hby at_17) ?_
    show Steps p.tables e below (s₁.setTop (mkF m 19 #[.val (.int i0), .val (.int i1), .val (.int i2), .val (.int (7 : Int32)), .unset, .unset] [(.int (7 : Int32)), (.int (i1 >>> ((1 : Int32) &&& 31)))])) _
    refine XS.iand X0.here hx rfl (hb hby at_19) rfl ?_
    show Steps p.tables e below (s₁.setTop (mkF m 20 #[.val (.int i0), .val (.int i1), .val (.int i2), .val (.int (7 : Int32)), .unset, .unset] [(.int ((i1 >>> ((1 : Int32) &&& 31)) &&& (7 : Int32)))])) _
    refine XS.iconst X0.here hx rfl (hb hby at_20) ?_
    show Steps p.tables e below (s₁.setTop (mkF m 21 #[.val (.int i0), .val (.int i1), .val (.int i2), .val (.int (7 : Int32)), .unset, .unset] [(.int (2 : Int32)), (.int ((i1 >>> ((1 : Int32) &&& 31)) &&& (7 : Int32)))])) _
    refine XS.isub X0.here hx rfl (hb hby at_21) rfl ?_
    show Steps p.tables e below (s₁.setTop (mkF m 22 #[.val (.int i0), .val (.int i1), .val (.int i2), .val (.int (7 : Int32)), .unset, .unset] [(.int (((i1 >>> ((1 : Int32) &&& 31)) &&& (7 : Int32)) - (2 : Int32)))])) _
    refine XS.goto X0.here hx rfl (pc0 := 22) (pc' := 26) rfl (hb hby at_22) (by decide) (by decide) ?_
    show Steps p.tables e below (s₁.setTop (mkF m 26 #[.val (.int i0), .val (.int i1), .val (.int i2), .val (.int (7 : Int32)), .unset, .unset] [(.int (((i1 >>> ((1 : Int32) &&& 31)) &&& (7 : Int32)) - (2 : Int32)))])) _
    refine XS.istore X0.here hx rfl (hb hby at_26) rfl (l' := #[.val (.int i0), .val (.int i1), .val (.int i2), .val (.int (7 : Int32)), .val (.int (((i1 >>> ((1 : Int32) &&& 31)) &&& (7 : Int32)) - (2 : Int32))), .unset]) rfl ?_
    show Steps p.tables e below (s₁.setTop (mkF m 28 #[.val (.int i0), .val (.int i1), .val (.int i2), .val (.int (7 : Int32)), .val (.int (((i1 >>> ((1 : Int32) &&& 31)) &&& (7 : Int32)) - (2 : Int32))), .unset] [])) _
    refine XS.iloadN X0.here hx rfl (hb hby at_28) rfl ?_
    show Steps p.tables e below (s₁.setTop (mkF m 29 #[.val (.int i0), .val (.int i1), .val (.int i2), .val (.int (7 : Int32)), .val (.int (((i1 >>> ((1 : Int32) &&& 31)) &&& (7 : Int32)) - (2 : Int32))), .unset] [(.int (7 : Int32))])) _
    refine st1 _ ?_
    show Steps p.tables e below (T1.setTop (mkF m 32 #[.val (.int i0), .val (.int i1), .val (.int i2), .val (.int (7 : Int32)), .val (.int (((i1 >>> ((1 : Int32) &&& 31)) &&& (7 : Int32)) - (2 : Int32))), .unset] [(.ref r5)])) _
    refine XS.astore X1.here hx rfl (hb hby at_32) rfl rfl (l' := #[.val (.int i0), .val (.int i1), .val (.int i2), .val (.int (7 : Int32)), .val (.int (((i1 >>> ((1 : Int32) &&& 31)) &&& (7 : Int32)) - (2 : Int32))), .val (.ref r5)]) rfl ?_
    show Steps p.tables e below (T1.setTop (mkF m 34 #[.val (.int i0), .val (.int i1), .val (.int i2), .val (.int (7 : Int32)), .val (.int (((i1 >>> ((1 : Int32) &&& 31)) &&& (7 : Int32)) - (2 : Int32))), .val (.ref r5)] [])) _
    refine XS.aload X1.here hx rfl (hb hby at_34) rfl rfl ?_
    show Steps p.tables e below (T1.setTop (mkF m 36 #[.val (.int i0), .val (.int i1), .val (.int i2), .val (.int (7 : Int32)), .val (.int (((i1 >>> ((1 : Int32) &&& 31)) &&& (7 : Int32)) - (2 : Int32))), .val (.ref r5)] [(.ref r5)])) _
    refine XS.iload X1.here hx rfl (hb hby at_36) rfl ?_
    show Steps p.tables e below (T1.setTop (mkF m 38 #[.val (.int i0), .val (.int i1), .val (.int i2), .val (.int (7 : Int32)), .val (.int (((i1 >>> ((1 : Int32) &&& 31)) &&& (7 : Int32)) - (2 : Int32))), .val (.ref r5)] [(.int (((i1 >>> ((1 : Int32) &&& 31)) &&& (7 : Int32)) - (2 : Int32))), (.ref r5)])) _
    refine st2.trans ?_
    show Steps p.tables e below (T2.setTop (mkF m 41 #[.val (.int i0), .val (.int i1), .val (.int i2), .val (.int (7 : Int32)), .val (.int (((i1 >>> ((1 : Int32) &&& 31)) &&& (7 : Int32)) - (2 : Int32))), .val (.ref r5)] [(.int (0 : Int32))])) _
    refine XS.iloadN X2.here hx rfl (hb hby at_41) rfl ?_
    show Steps p.tables e below (T2.setTop (mkF m 42 #[.val (.int i0), .val (.int i1), .val (.int i2), .val (.int (7 : Int32)), .val (.int (((i1 >>> ((1 : Int32) &&& 31)) &&& (7 : Int32)) - (2 : Int32))), .val (.ref r5)] [(.int (7 : Int32)), (.int (0 : Int32))])) _
    refine XS.iload X2.here hx rfl (hb hby at_42) rfl ?_
    show Steps p.tables e below (T2.setTop (mkF m 44 #[.val (.int i0), .val (.int i1), .val (.int i2), .val (.int (7 : Int32)), .val (.int (((i1 >>> ((1 : Int32) &&& 31)) &&& (7 : Int32)) - (2 : Int32))), .val (.ref r5)] [(.int (((i1 >>> ((1 : Int32) &&& 31)) &&& (7 : Int32)) - (2 : Int32))), (.int (7 : Int32)), (.int (0 : Int32))])) _
    refine st3 _ ?_
    show Steps p.tables e below (T3.setTop (mkF m 47 #[.val (.int i0), .val (.int i1), .val (.int i2), .val (.int (7 : Int32)), .val (.int (((i1 >>> ((1 : Int32) &&& 31)) &&& (7 : Int32)) - (2 : Int32))), .val (.ref r5)] [(.int (0 : Int32)), (.int (0 : Int32))])) _
    refine XS.icmpNo X3.here hx rfl (hb hby at_47) rfl (teq (by decide : (0 : Int32) = (0 : Int32))).2 ?_
    show Steps p.tables e below (T3.setTop (mkF m 50 #[.val (.int i0), .val (.int i1), .val (.int i2), .val (.int (7 : Int32)), .val (.int (((i1 >>> ((1 : Int32) &&& 31)) &&& (7 : Int32)) - (2 : Int32))), .val (.ref r5)] [])) _
    refine XS.iconst X3.here hx rfl (hb hby at_50) ?_
    show Steps p.tables e below (T3.setTop (mkF m 51 #[.val (.int i0), .val (.int i1), .val (.int i2), .val (.int (7 : Int32)), .val (.int (((i1 >>> ((1 : Int32) &&& 31)) &&& (7 : Int32)) - (2 : Int32))), .val (.ref r5)] [(.int (1 : Int32))])) _
    refine XS.goto X3.here hx rfl (pc0 := 51) (pc' := 55) rfl (hb hby at_51) (by decide) (by decide) ?_
    show Steps p.tables e below (T3.setTop (mkF m 55 #[.val (.int i0), .val (.int i1), .val (.int i2), .val (.int (7 : Int32)), .val (.int (((i1 >>> ((1 : Int32) &&& 31)) &&& (7 : Int32)) - (2 : Int32))), .val (.ref r5)] [(.int (1 : Int32))])) _
    exact retN X3 hx (t := .boolean) Bd.returns (by simp) (hb hby at_55) hr
  · exact ⟨rfl, N3, e3⟩
theorem own_d1_73 : decode method_2_code 73 = .ok (.getstatic 34, 3) := by decide +kernel
theorem own_d1_76 : decode method_2_code 76 = .ok (.areturn, 1) := by decide +kernel
set_option maxRecDepth 65536 in
set_option maxHeartbeats 40000000 in
theorem own_r1_58 (l : Launch) (Z : State) (a0 : Array Value) (hw : ∀ d ∈ tables_1, d.before a0 Z = true) (ws : List Jvm.Cond) (r0 : Addr) (r1 : Addr) (r2 : Addr) (r3 : Addr) (r4 : Addr) (r5 : Addr) (r6 : Addr) (r7 : Addr) (r8 : Addr) (r0_c : Addr) (cl_r0_c : Cell) (r1_c : Addr) (cl_r1_c : Cell) (r2_c : Addr) (cl_r2_c : Cell) (r3_c : Addr) (cl_r3_c : Cell) (r4_c : Addr) (cl_r4_c : Cell) (r5_c : Addr) (cl_r5_c : Cell) (r6_c : Addr) (cl_r6_c : Cell) (r7_c : Addr) (cl_r7_c : Cell) (r8_c : Addr) (cl_r8_c : Cell) (h0 : Heap) (n0 : Nat) (Z0 : n0 ≤ h0.size) (F : own_W Z h0 r0 r1 r2 r3 r4 r5 r6 r7 r8 r0_c cl_r0_c r1_c cl_r1_c r2_c cl_r2_c r3_c cl_r3_c r4_c cl_r4_c r5_c cl_r5_c r6_c cl_r6_c r7_c cl_r7_c r8_c cl_r8_c)   :
    MetFree l (⟨"com/example/urbana/urbana/protocol/CommandTakesPinLaw", "pick", "(I)Lcom/example/urbana/urbana/protocol/Command;"⟩ : MethodName) (head1 (Jvm.Cond.code (⟨"com/example/urbana/urbana/protocol/CommandTakesPinLaw", "pick", "(I)Lcom/example/urbana/urbana/protocol/Command;"⟩ : MethodName) method_2_code 1 (some (.object "com/example/urbana/urbana/protocol/Command")) :: ws) ({ frames := 0, cells := 0, slots := 0, locals := 0 } : Room)) (fun a U => a = #[(.int (8 : Int32))] ∧ Z.Warmed39 U.vm ∧ U.heap = h0) (fun _ _ _ _ _ => True) (fun _ U o U' => ∃ v L, o = .returned v ∧ own_Q (.ref r3) h0 n0 v U'.heap L ∧ FrameEnd U o U' L ({ frames := 0, cells := 0, slots := 0, locals := 0 } : Room).cells ({ frames := 0, cells := 0, slots := 0, locals := 0 } : Room).slots) := by
  obtain ⟨S_r0, E_r0, S_r1, E_r1, S_r2, E_r2, S_r3, E_r3, S_r4, E_r4, S_r5, E_r5, S_r6, E_r6, S_r7, E_r7, S_r8, E_r8, F_r0_counts, Ar_r0_c, F_r1_counts, Ar_r1_c, F_r2_counts, Ar_r2_c, F_r3_counts, Ar_r3_c, F_r4_counts, Ar_r4_c, F_r5_counts, Ar_r5_c, F_r6_counts, Ar_r6_c, F_r7_counts, Ar_r7_c, F_r8_counts, Ar_r8_c, Sz_r0_c, El_r0_c_0, Sz_r1_c, El_r1_c_0, El_r1_c_1, Sz_r2_c, El_r2_c_0, Sz_r3_c, Sz_r4_c, Sz_r5_c, Sz_r6_c, Sz_r7_c, Sz_r8_c⟩ := id F
  refine MetFree.of_bodySF (plainFor_of_name own_pn_CommandTakesPinLaw) hisR ?_
  intro p e s m args below meth c s₁ Bd hml0 hP hK
  obtain ⟨rfl, hZ, hh⟩ := hP
  have hx := Bd.exec
  have hby := Bd.bytes
  have hml : c.maxLocals = 1 := hml0
  have hown : s.vm.findClass "com/example/urbana/urbana/protocol/CommandTakesPinLaw" = some m.cls := findClass_of_methodNamed Bd.named
  have X0 : Stand p l e ({ frames := 0, cells := 0, slots := 0, locals := 0 } : Room) s m #[(.int (8 : Int32))] below meth c s₁ [] 0 0 := Stand.of_body Bd
  have e0 : s₁.heap = h0 := by rw [← hh, Bd.state]; rfl
  have N0 := Fr.nil n0
  have pre0 : ∀ t, Steps p.tables e below (s₁.setTop (mkF m 0 #[.val (.int (8 : Int32))] [])) t → Steps p.tables e below (s₁.setTop (entryFrame m #[(.int (8 : Int32))] 1)) t := fun t k => castTop (own_ef1_I m (8 : Int32)) k
  obtain ⟨T1, X1, e1, st1⟩ := getS2 X0 hx hZ hown (host := "") (Or.inl (hw _ (List.mem_of_getElem? (i := 22) rfl))) Via.refl e0 S_r3 (g := (mkF m 73 #[.val (.int (8 : Int32))] [])) rfl (hb hby own_d1_73)
  obtain ⟨fs, hr, hrun, hended, hW, hsame⟩ := X1.leave (v := some (.ref r3)) (fun h => by rw [Bd.returns] at h; cases h)
  refine ⟨_, _, pre0 _ ?_, hrun, hended, _, _, rfl, ?_, ⟨_, rfl⟩, hW, hsame.mono (by decide) (by decide)⟩
  · show Steps p.tables e below (s₁.setTop (mkF m 0 #[.val (.int (8 : Int32))] [])) _
    refine XS.iloadN X0.here hx rfl (hb hby own_d1_0) rfl ?_
    show Steps p.tables e below (s₁.setTop (mkF m 1 #[.val (.int (8 : Int32))] [(.int (8 : Int32))])) _
    refine XS.ifYes X0.here hx rfl (pc0 := 1) (pc' := 8) rfl (hb hby own_d1_1) rfl ((if0 _ _).trans (feq (by decide : ¬ ((8 : Int32) = (0 : Int32)))).2) (by decide) (by decide) ?_
    show Steps p.tables e below (s₁.setTop (mkF m 8 #[.val (.int (8 : Int32))] [])) _
    refine XS.iloadN X0.here hx rfl (hb hby own_d1_8) rfl ?_
    show Steps p.tables e below (s₁.setTop (mkF m 9 #[.val (.int (8 : Int32))] [(.int (8 : Int32))])) _
    refine XS.iconst X0.here hx rfl (hb hby own_d1_9) ?_
    show Steps p.tables e below (s₁.setTop (mkF m 10 #[.val (.int (8 : Int32))] [(.int (1 : Int32)), (.int (8 : Int32))])) _
    refine XS.icmpYes X0.here hx rfl (pc0 := 10) (pc' := 17) rfl (hb hby own_d1_10) rfl (feq (by decide : ¬ ((8 : Int32) = (1 : Int32)))).2 (by decide) (by decide) ?_
    show Steps p.tables e below (s₁.setTop (mkF m 17 #[.val (.int (8 : Int32))] [])) _
    refine XS.iloadN X0.here hx rfl (hb hby own_d1_17) rfl ?_
    show Steps p.tables e below (s₁.setTop (mkF m 18 #[.val (.int (8 : Int32))] [(.int (8 : Int32))])) _
    refine XS.iconst X0.here hx rfl (hb hby own_d1_18) ?_
    show Steps p.tables e below (s₁.setTop (mkF m 19 #[.val (.int (8 : Int32))] [(.int (2 : Int32)), (.int (8 : Int32))])) _
    refine XS.icmpYes X0.here hx rfl (pc0 := 19) (pc' := 26) rfl (hb hby own_d1_19) rfl (feq (by decide : ¬ ((8 : Int32) = (2 : Int32)))).2 (by decide) (by decide) ?_
    show Steps p.tables e below (s₁.setTop (mkF m 26 #[.val (.int (8 : Int32))] [])) _
    refine XS.iloadN X0.here hx rfl (hb hby own_d1_26) rfl ?_
    show Steps p.tables e below (s₁.setTop (mkF m 27 #[.val (.int (8 : Int32))] [(.int (8 : Int32))])) _
    refine XS.iconst X0.here hx rfl (hb hby own_d1_27) ?_
    show Steps p.tables e below (s₁.setTop (mkF m 28 #[.val (.int (8 : Int32))] [(.int (3 : Int32)), (.int (8 : Int32))])) _
    refine XS.icmpYes X0.here hx rfl (pc0 := 28) (pc' := 35) rfl (hb hby own_d1_28) rfl (feq (by decide : ¬ ((8 : Int32) = (3 : Int32)))).2 (by decide) (by decide) ?_
    show Steps p.tables e below (s₁.setTop (mkF m 35 #[.val (.int (8 : Int32))] [])) _
    refine XS.iloadN X0.here hx rfl (hb hby own_d1_35) rfl ?_
    show Steps p.tables e below (s₁.setTop (mkF m 36 #[.val (.int (8 : Int32))] [(.int (8 : Int32))])) _
    refine XS.iconst X0.here hx rfl (hb hby own_d1_36) ?_
    show Steps p.tables e below (s₁.setTop (mkF m 37 #[.val (.int (8 : Int32))] [(.int (4 : Int32)), (.int (8 : Int32))])) _
    refine XS.icmpYes X0.here hx rfl (pc0 := 37) (pc' := 44) rfl (hb hby own_d1_37) rfl (feq (by decide : ¬ ((8 : Int32) = (4 : Int32)))).2 (by decide) (by decide) ?_
    show Steps p.tables e below (s₁.setTop (mkF m 44 #[.val (.int (8 : Int32))] [])) _
    refine XS.iloadN X0.here hx rfl (hb hby own_d1_44) rfl ?_
    show Steps p.tables e below (s₁.setTop (mkF m 45 #[.val (.int (8 : Int32))] [(.int (8 : Int32))])) _
    refine XS.iconst X0.here hx rfl (hb hby own_d1_45) ?_
    show Steps p.tables e below (s₁.setTop (mkF m 46 #[.val (.int (8 : Int32))] [(.int (5 : Int32)), (.int (8 : Int32))])) _
    refine XS.icmpYes X0.here hx rfl (pc0 := 46) (pc' := 53) rfl (hb hby own_d1_46) rfl (feq (by decide : ¬ ((8 : Int32) = (5 : Int32)))).2 (by decide) (by decide) ?_
    show Steps p.tables e below (s₁.setTop (mkF m 53 #[.val (.int (8 : Int32))] [])) _
    refine XS.iloadN X0.here hx rfl (hb hby own_d1_53) rfl ?_
    show Steps p.tables e below (s₁.setTop (mkF m 54 #[.val (.int (8 : Int32))] [(.int (8 : Int32))])) _
    refine XS.bipush X0.here hx rfl (hb hby own_d1_54) ?_
    show Steps p.tables e below (s₁.setTop (mkF m 56 #[.val (.int (8 : Int32))] [(.int (6 : Int32)), (.int (8 : Int32))])) _
    refine XS.icmpYes X0.here hx rfl (pc0 := 56) (pc' := 63) rfl (hb hby own_d1_56) rfl (feq (by decide : ¬ ((8 : Int32) = (6 : Int32)))).2 (by decide) (by decide) ?_
    show Steps p.tables e below (s₁.setTop (mkF m 63 #[.val (.int (8 : Int32))] [])) _
    refine XS.iloadN X0.here hx rfl (hb hby own_d1_63) rfl ?_
    show Steps p.tables e below (s₁.setTop (mkF m 64 #[.val (.int (8 : Int32))] [(.int (8 : Int32))])) _
    refine XS.bipush X0.here hx rfl (hb hby own_d1_64) ?_
    show Steps p.tables e below (s₁.setTop (mkF m 66 #[.val (.int (8 : Int32))] [(.int (7 : Int32)), (.int (8 : Int32))])) _
    refine XS.icmpYes X0.here hx rfl (pc0 := 66) (pc' := 73) rfl (hb hby own_d1_66) rfl (feq (by decide : ¬ ((8 : Int32) = (7 : Int32)))).2 (by decide) (by decide) ?_
    show Steps p.tables e below (s₁.setTop (mkF m 73 #[.val (.int (8 : Int32))] [])) _
    refine st1 _ ?_
    show Steps p.tables e below (T1.setTop (mkF m 76 #[.val (.int (8 : Int32))] [(.ref r3)])) _
    jvm_step X1.here [X1.here.top, hx, (hb hby own_d1_76), X1.method', Bd.returns, Value.isRef, FieldType.isReference]
    first | (intro acts; rw [hr _ acts rfl rfl rfl]) | rw [hr _ _ rfl rfl rfl]
    exact Steps.refl _
  · exact ⟨rfl, N0, e1⟩
set_option maxRecDepth 65536 in
set_option maxHeartbeats 40000000 in
theorem own_r2_59 (l : Launch) (Z : State) (a0 : Array Value) (hw : ∀ d ∈ tables_1, d.before a0 Z = true) (ws : List Jvm.Cond) (r0 : Addr) (r1 : Addr) (r2 : Addr) (r3 : Addr) (r4 : Addr) (r5 : Addr) (r6 : Addr) (r7 : Addr) (r8 : Addr) (r0_c : Addr) (cl_r0_c : Cell) (r1_c : Addr) (cl_r1_c : Cell) (r2_c : Addr) (cl_r2_c : Cell) (r3_c : Addr) (cl_r3_c : Cell) (r4_c : Addr) (cl_r4_c : Cell) (r5_c : Addr) (cl_r5_c : Cell) (r6_c : Addr) (cl_r6_c : Cell) (r7_c : Addr) (cl_r7_c : Cell) (r8_c : Addr) (cl_r8_c : Cell) (h0 : Heap) (n0 : Nat) (Z0 : n0 ≤ h0.size) (F : own_W Z h0 r0 r1 r2 r3 r4 r5 r6 r7 r8 r0_c cl_r0_c r1_c cl_r1_c r2_c cl_r2_c r3_c cl_r3_c r4_c cl_r4_c r5_c cl_r5_c r6_c cl_r6_c r7_c cl_r7_c r8_c cl_r8_c) (q0 : Int32)  :
    MetFree l (⟨"com/example/urbana/urbana/protocol/Command", "takes", "(I)Z"⟩ : MethodName) (head1 (Jvm.Cond.code (⟨"com/example/urbana/urbana/protocol/Command", "takes", "(I)Z"⟩ : MethodName) prog_2_method_8_code 7 (some .boolean) :: ws) ({ frames := 0, cells := 0, slots := 0, locals := 0 } : Room)) (fun a U => a = #[(.ref r3), (.int q0)] ∧ Z.Warmed39 U.vm ∧ U.heap = h0) (fun _ _ _ _ _ => True) (fun _ U o U' => ∃ v L, o = .returned v ∧ own_Q (.int (0 : Int32)) h0 n0 v U'.heap L ∧ FrameEnd U o U' L ({ frames := 0, cells := 0, slots := 0, locals := 0 } : Room).cells ({ frames := 0, cells := 0, slots := 0, locals := 0 } : Room).slots) := by
  obtain ⟨S_r0, E_r0, S_r1, E_r1, S_r2, E_r2, S_r3, E_r3, S_r4, E_r4, S_r5, E_r5, S_r6, E_r6, S_r7, E_r7, S_r8, E_r8, F_r0_counts, Ar_r0_c, F_r1_counts, Ar_r1_c, F_r2_counts, Ar_r2_c, F_r3_counts, Ar_r3_c, F_r4_counts, Ar_r4_c, F_r5_counts, Ar_r5_c, F_r6_counts, Ar_r6_c, F_r7_counts, Ar_r7_c, F_r8_counts, Ar_r8_c, Sz_r0_c, El_r0_c_0, Sz_r1_c, El_r1_c_0, El_r1_c_1, Sz_r2_c, El_r2_c_0, Sz_r3_c, Sz_r4_c, Sz_r5_c, Sz_r6_c, Sz_r7_c, Sz_r8_c⟩ := id F
  refine MetFree.of_bodySF (plainFor_of_name own_pn_Command) hisR ?_
  intro p e s m args below meth c s₁ Bd hml0 hP hK
  obtain ⟨rfl, hZ, hh⟩ := hP
  have hx := Bd.exec
  have hby := Bd.bytes
  have hml : c.maxLocals = 7 := hml0
  have hown : s.vm.findClass "com/example/urbana/urbana/protocol/Command" = some m.cls := findClass_of_methodNamed Bd.named
  have X0 : Stand p l e ({ frames := 0, cells := 0, slots := 0, locals := 0 } : Room) s m #[(.ref r3), (.int q0)] below meth c s₁ [] 0 0 := Stand.of_body Bd
  have e0 : s₁.heap = h0 := by rw [← hh, Bd.state]; rfl
  have N0 := Fr.nil n0
  have pre0 : ∀ t, Steps p.tables e below (s₁.setTop (mkF m 0 #[.val (.ref r3), .val (.int q0), .unset, .unset, .unset, .unset, .unset] [])) t → Steps p.tables e below (s₁.setTop (entryFrame m #[(.ref r3), (.int q0)] 7)) t := fun t k => castTop (own_ef2_RI m r3 q0) k
  obtain ⟨T1, X1, e1, st1⟩ := getF X0 hx hZ hown (host := "") (Or.inl (hw _ (List.mem_of_getElem? (i := 13) rfl))) Via.refl e0 F_r3_counts (g := (mkF m 3 #[.val (.ref r3), .val (.int q0), .val (.int (0 : Int32)), .unset, .unset, .unset, .unset] [(.ref r3)])) rfl rfl (hb hby own_d2_3)
  obtain ⟨fs, hr, hrun, hended, hW, hsame⟩ := X1.leave (v := some (.int (0 : Int32))) (fun h => by rw [Bd.returns] at h; cases h)
  refine ⟨_, _, pre0 _ ?_, hrun, hended, _, _, rfl, ?_, ⟨_, rfl⟩, hW, hsame.mono (by decide) (by decide)⟩
  · show Steps p.tables e below (s₁.setTop (mkF m 0 #[.val (.ref r3), .val (.int q0), .unset, .unset, .unset, .unset, .unset] [])) _
    refine XS.iconst X0.here hx rfl (hb hby own_d2_0) ?_
    show Steps p.tables e below (s₁.setTop (mkF m 1 #[.val (.ref r3), .val (.int q0), .unset, .unset, .unset, .unset, .unset] [(.int (0 : Int32))])) _
    refine XS.istoreN X0.here hx rfl (hb hby own_d2_1) rfl (l' := #[.val (.ref r3), .val (.int q0), .val (.int (0 : Int32)), .unset, .unset, .unset, .unset]) rfl ?_
    show Steps p.tables e below (s₁.setTop (mkF m 2 #[.val (.ref r3), .val (.int q0), .val (.int (0 : Int32)), .unset, .unset, .unset, .unset] [])) _
    refine XS.aloadN X0.here hx rfl (hb hby own_d2_2) rfl rfl ?_
    show Steps p.tables e below (s₁.setTop (mkF m 3 #[.val (.ref r3), .val (.int q0), .val (.int (0 : Int32)), .unset, .unset, .unset, .unset] [(.ref r3)])) _
    refine st1 _ ?_
    show Steps p.tables e below (T1.setTop (mkF m 6 #[.val (.ref r3), .val (.int q0), .val (.int (0 : Int32)), .unset, .unset, .unset, .unset] [(.ref r3_c)])) _
    refine XS.astoreN X1.here hx rfl (hb hby own_d2_6) rfl rfl (l' := #[.val (.ref r3), .val (.int q0), .val (.int (0 : Int32)), .val (.ref r3_c), .unset, .unset, .unset]) rfl ?_
    show Steps p.tables e below (T1.setTop (mkF m 7 #[.val (.ref r3), .val (.int q0), .val (.int (0 : Int32)), .val (.ref r3_c), .unset, .unset, .unset] [])) _
    refine XS.aloadN X1.here hx rfl (hb hby own_d2_7) rfl rfl ?_
    show Steps p.tables e below (T1.setTop (mkF m 8 #[.val (.ref r3), .val (.int q0), .val (.int (0 : Int32)), .val (.ref r3_c), .unset, .unset, .unset] [(.ref r3_c)])) _
    refine X1.arraylength hx (by rw [e1]; exact Ar_r3_c.1) (State.isArrayOf_alike hZ.alike Ar_r3_c.2.1) (g := (mkF m 8 #[.val (.ref r3), .val (.int q0), .val (.int (0 : Int32)), .val (.ref r3_c), .unset, .unset, .unset] [(.ref r3_c)])) rfl rfl (hb hby own_d2_8) _ ?_
    rw [len_of Sz_r3_c (by decide)]
    show Steps p.tables e below (T1.setTop (mkF m 9 #[.val (.ref r3), .val (.int q0), .val (.int (0 : Int32)), .val (.ref r3_c), .unset, .unset, .unset] [(.int (0 : Int32))])) _
    refine XS.istore X1.here hx rfl (hb hby own_d2_9) rfl (l' := #[.val (.ref r3), .val (.int q0), .val (.int (0 : Int32)), .val (.ref r3_c), .val (.int (0 : Int32)), .unset, .unset]) rfl ?_
    show Steps p.tables e below (T1.setTop (mkF m 11 #[.val (.ref r3), .val (.int q0), .val (.int (0 : Int32)), .val (.ref r3_c), .val (.int (0 : Int32)), .unset, .unset] [])) _
    refine XS.iconst X1.here hx rfl (hb hby own_d2_11) ?_
    show Steps p.tables e below (T1.setTop (mkF m 12 #[.val (.ref r3), .val (.int q0), .val (.int (0 : Int32)), .val (.ref r3_c), .val (.int (0 : Int32)), .unset, .unset] [(.int (0 : Int32))])) _
    refine XS.istore X1.here hx rfl (hb hby own_d2_12) rfl (l' := #[.val (.ref r3), .val (.int q0), .val (.int (0 : Int32)), .val (.ref r3_c), .val (.int (0 : Int32)), .val (.int (0 : Int32)), .unset]) rfl ?_
    show Steps p.tables e below (T1.setTop (mkF m 14 #[.val (.ref r3), .val (.int q0), .val (.int (0 : Int32)), .val (.ref r3_c), .val (.int (0 : Int32)), .val (.int (0 : Int32)), .unset] [])) _
    refine XS.iload X1.here hx rfl (hb hby own_d2_14) rfl ?_
    show Steps p.tables e below (T1.setTop (mkF m 16 #[.val (.ref r3), .val (.int q0), .val (.int (0 : Int32)), .val (.ref r3_c), .val (.int (0 : Int32)), .val (.int (0 : Int32)), .unset] [(.int (0 : Int32))])) _
    refine XS.iload X1.here hx rfl (hb hby own_d2_16) rfl ?_
    show Steps p.tables e below (T1.setTop (mkF m 18 #[.val (.ref r3), .val (.int q0), .val (.int (0 : Int32)), .val (.ref r3_c), .val (.int (0 : Int32)), .val (.int (0 : Int32)), .unset] [(.int (0 : Int32)), (.int (0 : Int32))])) _
    refine XS.icmpYes X1.here hx rfl (pc0 := 18) (pc' := 47) rfl (hb hby own_d2_18) rfl (flt (by decide : ¬ ((0 : Int32) < (0 : Int32)))).2.1 (by decide) (by decide) ?_
    show Steps p.tables e below (T1.setTop (mkF m 47 #[.val (.ref r3), .val (.int q0), .val (.int (0 : Int32)), .val (.ref r3_c), .val (.int (0 : Int32)), .val (.int (0 : Int32)), .unset] [])) _
    refine XS.iloadN X1.here hx rfl (hb hby own_d2_47) rfl ?_
    show Steps p.tables e below (T1.setTop (mkF m 48 #[.val (.ref r3), .val (.int q0), .val (.int (0 : Int32)), .val (.ref r3_c), .val (.int (0 : Int32)), .val (.int (0 : Int32)), .unset] [(.int (0 : Int32))])) _
    exact retN X1 hx (t := .boolean) Bd.returns (by simp) (hb hby own_d2_48) hr
  · exact ⟨rfl, N0, e1⟩
set_option maxRecDepth 65536 in
set_option maxHeartbeats 40000000 in
theorem own_r3_60 (l : Launch) (Z : State) (a0 : Array Value) (hw : ∀ d ∈ tables_1, d.before a0 Z = true) (ws : List Jvm.Cond) (r0 : Addr) (r1 : Addr) (r2 : Addr) (r3 : Addr) (r4 : Addr) (r5 : Addr) (r6 : Addr) (r7 : Addr) (r8 : Addr) (r0_c : Addr) (cl_r0_c : Cell) (r1_c : Addr) (cl_r1_c : Cell) (r2_c : Addr) (cl_r2_c : Cell) (r3_c : Addr) (cl_r3_c : Cell) (r4_c : Addr) (cl_r4_c : Cell) (r5_c : Addr) (cl_r5_c : Cell) (r6_c : Addr) (cl_r6_c : Cell) (r7_c : Addr) (cl_r7_c : Cell) (r8_c : Addr) (cl_r8_c : Cell) (h0 : Heap) (n0 : Nat) (Z0 : n0 ≤ h0.size) (F : own_W Z h0 r0 r1 r2 r3 r4 r5 r6 r7 r8 r0_c cl_r0_c r1_c cl_r1_c r2_c cl_r2_c r3_c cl_r3_c r4_c cl_r4_c r5_c cl_r5_c r6_c cl_r6_c r7_c cl_r7_c r8_c cl_r8_c) (q0 : Int32)  :
    MetFree l (⟨"com/example/urbana/urbana/protocol/CommandTakesPinLaw", "expected", "(II)Z"⟩ : MethodName) (head1 (Jvm.Cond.code (⟨"com/example/urbana/urbana/protocol/CommandTakesPinLaw", "expected", "(II)Z"⟩ : MethodName) method_3_code 2 (some .boolean) :: ws) ({ frames := 0, cells := 0, slots := 0, locals := 0 } : Room)) (fun a U => a = #[(.int (8 : Int32)), (.int q0)] ∧ Z.Warmed39 U.vm ∧ U.heap = h0) (fun _ _ _ _ _ => True) (fun _ U o U' => ∃ v L, o = .returned v ∧ own_Q (.int (0 : Int32)) h0 n0 v U'.heap L ∧ FrameEnd U o U' L ({ frames := 0, cells := 0, slots := 0, locals := 0 } : Room).cells ({ frames := 0, cells := 0, slots := 0, locals := 0 } : Room).slots) := by
  obtain ⟨S_r0, E_r0, S_r1, E_r1, S_r2, E_r2, S_r3, E_r3, S_r4, E_r4, S_r5, E_r5, S_r6, E_r6, S_r7, E_r7, S_r8, E_r8, F_r0_counts, Ar_r0_c, F_r1_counts, Ar_r1_c, F_r2_counts, Ar_r2_c, F_r3_counts, Ar_r3_c, F_r4_counts, Ar_r4_c, F_r5_counts, Ar_r5_c, F_r6_counts, Ar_r6_c, F_r7_counts, Ar_r7_c, F_r8_counts, Ar_r8_c, Sz_r0_c, El_r0_c_0, Sz_r1_c, El_r1_c_0, El_r1_c_1, Sz_r2_c, El_r2_c_0, Sz_r3_c, Sz_r4_c, Sz_r5_c, Sz_r6_c, Sz_r7_c, Sz_r8_c⟩ := id F
  refine MetFree.of_bodySF (plainFor_of_name own_pn_CommandTakesPinLaw) hisR ?_
  intro p e s m args below meth c s₁ Bd hml0 hP hK
  obtain ⟨rfl, hZ, hh⟩ := hP
  have hx := Bd.exec
  have hby := Bd.bytes
  have hml : c.maxLocals = 2 := hml0
  have hown : s.vm.findClass "com/example/urbana/urbana/protocol/CommandTakesPinLaw" = some m.cls := findClass_of_methodNamed Bd.named
  have X0 : Stand p l e ({ frames := 0, cells := 0, slots := 0, locals := 0 } : Room) s m #[(.int (8 : Int32)), (.int q0)] below meth c s₁ [] 0 0 := Stand.of_body Bd
  have e0 : s₁.heap = h0 := by rw [← hh, Bd.state]; rfl
  have N0 := Fr.nil n0
  have pre0 : ∀ t, Steps p.tables e below (s₁.setTop (mkF m 0 #[.val (.int (8 : Int32)), .val (.int q0)] [])) t → Steps p.tables e below (s₁.setTop (entryFrame m #[(.int (8 : Int32)), (.int q0)] 2)) t := fun t k => castTop (own_ef3_II m (8 : Int32) q0) k
  obtain ⟨fs, hr, hrun, hended, hW, hsame⟩ := X0.leave (v := some (.int (0 : Int32))) (fun h => by rw [Bd.returns] at h; cases h)
  refine ⟨_, _, pre0 _ ?_, hrun, hended, _, _, rfl, ?_, ⟨_, rfl⟩, hW, hsame.mono (by decide) (by decide)⟩
  · show Steps p.tables e below (s₁.setTop (mkF m 0 #[.val (.int (8 : Int32)), .val (.int q0)] [])) _
    refine XS.iloadN X0.here hx rfl (hb hby own_d3_0) rfl ?_
    show Steps p.tables e below (s₁.setTop (mkF m 1 #[.val (.int (8 : Int32)), .val (.int q0)] [(.int (8 : Int32))])) _
    refine XS.ifYes X0.here hx rfl (pc0 := 1) (pc' := 15) rfl (hb hby own_d3_1) rfl ((if0 _ _).trans (feq (by decide : ¬ ((8 : Int32) = (0 : Int32)))).2) (by decide) (by decide) ?_
    show Steps p.tables e below (s₁.setTop (mkF m 15 #[.val (.int (8 : Int32)), .val (.int q0)] [])) _
    refine XS.iloadN X0.here hx rfl (hb hby own_d3_15) rfl ?_
    show Steps p.tables e below (s₁.setTop (mkF m 16 #[.val (.int (8 : Int32)), .val (.int q0)] [(.int (8 : Int32))])) _
    refine XS.iconst X0.here hx rfl (hb hby own_d3_16) ?_
    show Steps p.tables e below (s₁.setTop (mkF m 17 #[.val (.int (8 : Int32)), .val (.int q0)] [(.int (1 : Int32)), (.int (8 : Int32))])) _
    refine XS.icmpYes X0.here hx rfl (pc0 := 17) (pc' := 35) rfl (hb hby own_d3_17) rfl (feq (by decide : ¬ ((8 : Int32) = (1 : Int32)))).2 (by decide) (by decide) ?_
    show Steps p.tables e below (s₁.setTop (mkF m 35 #[.val (.int (8 : Int32)), .val (.int q0)] [])) _
    refine XS.iloadN X0.here hx rfl (hb hby own_d3_35) rfl ?_
    show Steps p.tables e below (s₁.setTop (mkF m 36 #[.val (.int (8 : Int32)), .val (.int q0)] [(.int (8 : Int32))])) _
    refine XS.iconst X0.here hx rfl (hb hby own_d3_36) ?_
    show Steps p.tables e below (s₁.setTop (mkF m 37 #[.val (.int (8 : Int32)), .val (.int q0)] [(.int (2 : Int32)), (.int (8 : Int32))])) _
    refine XS.icmpYes X0.here hx rfl (pc0 := 37) (pc' := 51) rfl (hb hby own_d3_37) rfl (feq (by decide : ¬ ((8 : Int32) = (2 : Int32)))).2 (by decide) (by decide) ?_
    show Steps p.tables e below (s₁.setTop (mkF m 51 #[.val (.int (8 : Int32)), .val (.int q0)] [])) _
    refine XS.iconst X0.here hx rfl (hb hby own_d3_51) ?_
    show Steps p.tables e below (s₁.setTop (mkF m 52 #[.val (.int (8 : Int32)), .val (.int q0)] [(.int (0 : Int32))])) _
    exact retN X0 hx (t := .boolean) Bd.returns (by simp) (hb hby own_d3_52) hr
  · exact ⟨rfl, N0, e0⟩
set_option maxRecDepth 65536 in
set_option maxHeartbeats 40000000 in
theorem own_r0_k8m0c0 (l : Launch) (Z : State) (a0 : Array Value) (hw : ∀ d ∈ tables_1, d.before a0 Z = true) (ws : List Jvm.Cond) (r0 : Addr) (r1 : Addr) (r2 : Addr) (r3 : Addr) (r4 : Addr) (r5 : Addr) (r6 : Addr) (r7 : Addr) (r8 : Addr) (r0_c : Addr) (cl_r0_c : Cell) (r1_c : Addr) (cl_r1_c : Cell) (r2_c : Addr) (cl_r2_c : Cell) (r3_c : Addr) (cl_r3_c : Cell) (r4_c : Addr) (cl_r4_c : Cell) (r5_c : Addr) (cl_r5_c : Cell) (r6_c : Addr) (cl_r6_c : Cell) (r7_c : Addr) (cl_r7_c : Cell) (r8_c : Addr) (cl_r8_c : Cell) (h0 : Heap) (n0 : Nat) (Z0 : n0 ≤ h0.size) (F : own_W Z h0 r0 r1 r2 r3 r4 r5 r6 r7 r8 r0_c cl_r0_c r1_c cl_r1_c r2_c cl_r2_c r3_c cl_r3_c r4_c cl_r4_c r5_c cl_r5_c r6_c cl_r6_c r7_c cl_r7_c r8_c cl_r8_c) (i0 : Int32) (i1 : Int32) (i2 : Int32) (hk : ((i0 &&& (2147483647 : Int32)) % (9 : Int32)) = (8 : Int32)) (hm : (i1 &&& (1 : Int32)) = (0 : Int32)) :
    MetFree l x (head1 (Jvm.Cond.code x code maxLocals ret :: ws) room_1) (fun a U => a = #[(.int i0), (.int i1), (.int i2)] ∧ Z.Warmed39 U.vm ∧ U.heap = h0) (fun _ _ _ _ _ => True) (fun _ U o U' => ∃ v L, o = .returned v ∧ own_Q (.int (1 : Int32)) h0 n0 v U'.heap L ∧ FrameEnd U o U' L room_1.cells room_1.slots) := by
  obtain ⟨S_r0, E_r0, S_r1, E_r1, S_r2, E_r2, S_r3, E_r3, S_r4, E_r4, S_r5, E_r5, S_r6, E_r6, S_r7, E_r7, S_r8, E_r8, F_r0_counts, Ar_r0_c, F_r1_counts, Ar_r1_c, F_r2_counts, Ar_r2_c, F_r3_counts, Ar_r3_c, F_r4_counts, Ar_r4_c, F_r5_counts, Ar_r5_c, F_r6_counts, Ar_r6_c, F_r7_counts, Ar_r7_c, F_r8_counts, Ar_r8_c, Sz_r0_c, El_r0_c_0, Sz_r1_c, El_r1_c_0, El_r1_c_1, Sz_r2_c, El_r2_c_0, Sz_r3_c, Sz_r4_c, Sz_r5_c, Sz_r6_c, Sz_r7_c, Sz_r8_c⟩ := id F
  refine MetFree.of_bodySF (plainFor_of_name own_pn_CommandTakesPinLaw) hisR ?_
  intro p e s m args below meth c s₁ Bd hml0 hP hK
  obtain ⟨rfl, hZ, hh⟩ := hP
  have hx := Bd.exec
  have hby := Bd.bytes
  have hml : c.maxLocals = 6 := hml0
  have hown : s.vm.findClass "com/example/urbana/urbana/protocol/CommandTakesPinLaw" = some m.cls := findClass_of_methodNamed Bd.named
  have X0 : Stand p l e room_1 s m #[(.int i0), (.int i1), (.int i2)] below meth c s₁ [] 0 0 := Stand.of_body Bd
  have e0 : s₁.heap = h0 := by rw [← hh, Bd.state]; rfl
  have N0 := Fr.nil n0
  have pre0 : ∀ t, Steps p.tables e below (s₁.setTop (mkF m 0 #[.val (.int i0), .val (.int i1), .val (.int i2), .unset, .unset, .unset] [])) t → Steps p.tables e below (s₁.setTop (entryFrame m #[(.int i0), (.int i1), (.int i2)] maxLocals)) t := fun t k => castTop (own_ef0_III m i0 i1 i2) k
  obtain ⟨_, _, ⟨T1, L1, k1, n1⟩, -, X1, ⟨Lc1, hQ1, l1, y1, z1⟩, st1⟩ := Jvm.LawKit.callS X0 hx (y := (⟨"com/example/urbana/urbana/protocol/CommandTakesPinLaw", "pick", "(I)Lcom/example/urbana/urbana/protocol/Command;"⟩ : MethodName)) hown (mvT hZ (hw _ (List.mem_of_getElem? (i := 1) rfl))) (mvT hZ (hw _ (List.mem_of_getElem? (i := 2) rfl))) (mvT hZ (hw _ (List.mem_of_getElem? (i := 3) rfl))) (mvT hZ (hw _ (List.mem_of_getElem? (i := 4) rfl))) (by decide) (backOf (W := 0) (own_r1_58 l Z a0 hw [] r0 r1 r2 r3 r4 r5 r6 r7 r8 r0_c cl_r0_c r1_c cl_r1_c r2_c cl_r2_c r3_c cl_r3_c r4_c cl_r4_c r5_c cl_r5_c r6_c cl_r6_c r7_c cl_r7_c r8_c cl_r8_c h0 n0 Z0 F ) hZ (hw _ (List.mem_of_getElem? (i := 4) rfl)) (hw _ (List.mem_of_getElem? (i := 3) rfl)) (by decide) (by decide)) (g := (mkF m 29 #[.val (.int i0), .val (.int i1), .val (.int i2), .val (.int (8 : Int32)), .val (.int i2), .unset] [(.int (8 : Int32))])) rfl (by rw [hml]; rfl) (argsL := [(.int (8 : Int32))]) (rest := []) (lenOf own_pd0 rfl) rfl (by show 2 * 0 + _ ≤ _; exact Nat.le_of_eq rfl) (hb hby at_29) (fun _ _ => ⟨rfl, e0, (by decide : 0 + 0 ≤ _), (by decide : 0 + 0 ≤ _)⟩)
  dsimp only [Pt.U, Pt.locs, Pt.cells, Pt.slots] at X1 l1 y1 z1 st1 hQ1
  subst l1 y1 z1
  obtain ⟨rfl, N1q, e1⟩ := hQ1
  have N1 := Fr.app N0 N1q
  obtain ⟨cq2, kq2, q2a, q2b, q2c⟩ := isOf hZ e1 E_r3
  obtain ⟨_, _, ⟨T2, L2, k2, n2⟩, -, X2, ⟨Lc2, hQ2, l2, y2, z2⟩, st2⟩ := X1.virtualBack hx (y := (⟨"com/example/urbana/urbana/protocol/Command", "takes", "(I)Z"⟩ : MethodName)) (z := (⟨"com/example/urbana/urbana/protocol/Command", "takes", "(I)Z"⟩ : MethodName)) hown (mvT hZ (hw _ (List.mem_of_getElem? (i := 8) rfl))) (mvT hZ (hw _ (List.mem_of_getElem? (i := 9) rfl))) (notFace_of_selects (args := #[]) (mvT hZ (hw _ (List.mem_of_getElem? (i := 11) rfl)))) (mvT hZ (hw _ (List.mem_of_getElem? (i := 11) rfl))) (mvT hZ (hw _ (List.mem_of_getElem? (i := 10) rfl))) (by decide) (backOf (W := 0) (own_r2_59 l Z a0 hw [] r0 r1 r2 r3 r4 r5 r6 r7 r8 r0_c cl_r0_c r1_c cl_r1_c r2_c cl_r2_c r3_c cl_r3_c r4_c cl_r4_c r5_c cl_r5_c r6_c cl_r6_c r7_c cl_r7_c r8_c cl_r8_c h0 n0 Z0 F i2) hZ (hw _ (List.mem_of_getElem? (i := 12) rfl)) (hw _ (List.mem_of_getElem? (i := 6) rfl)) (by decide) (by decide)) q2a q2c (g := (mkF m 38 #[.val (.int i0), .val (.int i1), .val (.int i2), .val (.int (8 : Int32)), .val (.int i2), .val (.ref r3)] [(.int i2), (.ref r3)])) rfl (by rw [hml]; rfl) (Steps.refl _) (argsL := [(.int i2)]) (rest := []) (lenOf own_pd1 rfl) rfl (by show 2 * 0 + _ ≤ _; exact Nat.le_of_eq rfl) (hb hby at_38) (fun _ _ => ⟨rfl, e1, (by decide : 0 + 0 ≤ _), (by decide : 0 + 0 ≤ _)⟩)
  dsimp only [Pt.U, Pt.locs, Pt.cells, Pt.slots] at X2 l2 y2 z2 st2 hQ2
  subst l2 y2 z2
  obtain ⟨rfl, N2q, e2⟩ := hQ2
  have N2 := Fr.app N1 N2q
  obtain ⟨_, _, ⟨T3, L3, k3, n3⟩, -, X3, ⟨Lc3, hQ3, l3, y3, z3⟩, st3⟩ := Jvm.LawKit.callS X2 hx (y := (⟨"com/example/urbana/urbana/protocol/CommandTakesPinLaw", "expected", "(II)Z"⟩ : MethodName)) hown (mvT hZ (hw _ (List.mem_of_getElem? (i := 15) rfl))) (mvT hZ (hw _ (List.mem_of_getElem? (i := 16) rfl))) (mvT hZ (hw _ (List.mem_of_getElem? (i := 3) rfl))) (mvT hZ (hw _ (List.mem_of_getElem? (i := 17) rfl))) (by decide) (backOf (W := 1) (own_r3_60 l Z a0 hw [] r0 r1 r2 r3 r4 r5 r6 r7 r8 r0_c cl_r0_c r1_c cl_r1_c r2_c cl_r2_c r3_c cl_r3_c r4_c cl_r4_c r5_c cl_r5_c r6_c cl_r6_c r7_c cl_r7_c r8_c cl_r8_c h0 n0 Z0 F i2) hZ (hw _ (List.mem_of_getElem? (i := 17) rfl)) (hw _ (List.mem_of_getElem? (i := 3) rfl)) (by decide) (by decide)) (g := (mkF m 44 #[.val (.int i0), .val (.int i1), .val (.int i2), .val (.int (8 : Int32)), .val (.int i2), .val (.ref r3)] [(.int i2), (.int (8 : Int32)), (.int (0 : Int32))])) rfl (by rw [hml]; rfl) (argsL := [(.int (8 : Int32)), (.int i2)]) (rest := [(.int (0 : Int32))]) (lenOf own_pd2 rfl) rfl (by show 2 * 0 + _ ≤ _; exact Nat.le_of_eq rfl) (hb hby at_44) (fun _ _ => ⟨rfl, e2, (by decide : 0 + 0 ≤ _), (by decide : 0 + 0 ≤ _)⟩)
  dsimp only [Pt.U, Pt.locs, Pt.cells, Pt.slots] at X3 l3 y3 z3 st3 hQ3
  subst l3 y3 z3
  obtain ⟨rfl, N3q, e3⟩ := hQ3
  have N3 := Fr.app N2 N3q
  obtain ⟨fs, hr, hrun, hended, hW, hsame⟩ := X3.leave (v := some (.int (1 : Int32))) (fun h => by rw [Bd.returns] at h; cases h)
  refine ⟨_, _, pre0 _ ?_, hrun, hended, _, _, rfl, ?_, ⟨_, rfl⟩, hW, hsame.mono (by decide) (by decide)⟩
  · show Steps p.tables e below (s₁.setTop (mkF m 0 #[.val (.int i0), .val (.int i1), .val (.int i2), .unset, .unset, .unset] [])) _
    refine XS.iloadN X0.here hx rfl (hb hby at_0) rfl ?_
    show Steps p.tables e below (s₁.setTop (mkF m 1 #[.val (.int i0), .val (.int i1), .val (.int i2), .unset, .unset, .unset] [(.int i0)])) _
    refine X0.ldcInt hx hown (mvT hZ (hw _ (List.mem_of_getElem? (i := 0) rfl))) (g := (mkF m 1 #[.val (.int i0), .val (.int i1), .val (.int i2), .unset, .unset, .unset] [(.int i0)])) rfl (hb hby at_1) _ ?_
    show Steps p.tables e below (s₁.setTop (mkF m 3 #[.val (.int i0), .val (.int i1), .val (.int i2), .unset, .unset, .unset] [(.int (2147483647 : Int32)), (.int i0)])) _
    refine XS.iand X0.here hx rfl (hb hby at_3) rfl ?_
    show Steps p.tables e below (s₁.setTop (mkF m 4 #[.val (.int i0), .val (.int i1), .val (.int i2), .unset, .unset, .unset] [(.int (i0 &&& (2147483647 : Int32)))])) _
    refine XS.bipush X0.here hx rfl (hb hby at_4) ?_
    show Steps p.tables e below (s₁.setTop (mkF m 6 #[.val (.int i0), .val (.int i1), .val (.int i2), .unset, .unset, .unset] [(.int (9 : Int32)), (.int (i0 &&& (2147483647 : Int32)))])) _
    refine iremM (g := (mkF m 6 #[.val (.int i0), .val (.int i1), .val (.int i2), .unset, .unset, .unset] [(.int (9 : Int32)), (.int (i0 &&& (2147483647 : Int32)))])) X0 hx rfl (hb hby at_6) rfl (by decide) ?_
    show Steps p.tables e below (s₁.setTop (mkF m 7 #[.val (.int i0), .val (.int i1), .val (.int i2), .unset, .unset, .unset] [(.int ((i0 &&& (2147483647 : Int32)) % (9 : Int32)))])) _
    rw [hk]
    show Steps p.tables e below (s₁.setTop (mkF m 7 #[.val (.int i0), .val (.int i1), .val (.int i2), .unset, .unset, .unset] [(.int (8 : Int32))])) _
    refine XS.istoreN X0.here hx rfl (hb hby at_7) rfl (l' := #[.val (.int i0), .val (.int i1), .val (.int i2), .val (.int (8 : Int32)), .unset, .unset]) rfl ?_
    show Steps p.tables e below (s₁.setTop (mkF m 8 #[.val (.int i0), .val (.int i1), .val (.int i2), .val (.int (8 : Int32)), .unset, .unset] [])) _
    refine XS.iloadN X0.here hx rfl (hb hby at_8) rfl ?_
    show Steps p.tables e below (s₁.setTop (mkF m 9 #[.val (.int i0), .val (.int i1), .val (.int i2), .val (.int (8 : Int32)), .unset, .unset] [(.int i1)])) _
    refine XS.iconst X0.here hx rfl (hb hby at_9) ?_
    show Steps p.tables e below (s₁.setTop (mkF m 10 #[.val (.int i0), .val (.int i1), .val (.int i2), .val (.int (8 : Int32)), .unset, .unset] [(.int (1 : Int32)), (.int i1)])) _
    refine XS.iand X0.here hx rfl (hb hby at_10) rfl ?_
    show Steps p.tables e below (s₁.setTop (mkF m 11 #[.val (.int i0), .val (.int i1), .val (.int i2), .val (.int (8 : Int32)), .unset, .unset] [(.int (i1 &&& (1 : Int32)))])) _
    rw [hm]
    show Steps p.tables e below (s₁.setTop (mkF m 11 #[.val (.int i0), .val (.int i1), .val (.int i2), .val (.int (8 : Int32)), .unset, .unset] [(.int (0 : Int32))])) _
    refine XS.ifYes X0.here hx rfl (pc0 := 11) (pc' := 25) rfl (hb hby at_11) rfl ((if0 _ _).trans (teq (by decide : (0 : Int32) = (0 : Int32))).1) (by decide) (by decide) ?_
    show Steps p.tables e below (s₁.setTop (mkF m 25 #[.val (.int i0), .val (.int i1), .val (.int i2), .val (.int (8 : Int32)), .unset, .unset] [])) _
    refine XS.iloadN X0.here hx rfl (hb hby at_25) rfl ?_
    show Steps p.tables e below (s₁.setTop (mkF m 26 #[.val (.int i0), .val (.int i1), .val (.int i2), .val (.int (8 : Int32)), .unset, .unset] [(.int i2)])) _
    refine XS.istore X0.here hx rfl (hb hby at_26) rfl (l' := #[.val (.int i0), .val (.int i1), .val (.int i2), .val (.int (8 : Int32)), .val (.int i2), .unset]) rfl ?_
    show Steps p.tables e below (s₁.setTop (mkF m 28 #[.val (.int i0), .val (.int i1), .val (.int i2), .val (.int (8 : Int32)), .val (.int i2), .unset] [])) _
    refine XS.iloadN X0.here hx rfl (hb hby at_28) rfl ?_
    show Steps p.tables e below (s₁.setTop (mkF m 29 #[.val (.int i0), .val (.int i1), .val (.int i2), .val (.int (8 : Int32)), .val (.int i2), .unset] [(.int (8 : Int32))])) _
    refine st1 _ ?_
    show Steps p.tables e below (T1.setTop (mkF m 32 #[.val (.int i0), .val (.int i1), .val (.int i2), .val (.int (8 : Int32)), .val (.int i2), .unset] [(.ref r3)])) _
    refine XS.astore X1.here hx rfl (hb hby at_32) rfl rfl (l' := #[.val (.int i0), .val (.int i1), .val (.int i2), .val (.int (8 : Int32)), .val (.int i2), .val (.ref r3)]) rfl ?_
    show Steps p.tables e below (T1.setTop (mkF m 34 #[.val (.int i0), .val (.int i1), .val (.int i2), .val (.int (8 : Int32)), .val (.int i2), .val (.ref r3)] [])) _
    refine XS.aload X1.here hx rfl (hb hby at_34) rfl rfl ?_
    show Steps p.tables e below (T1.setTop (mkF m 36 #[.val (.int i0), .val (.int i1), .val (.int i2), .val (.int (8 : Int32)), .val (.int i2), .val (.ref r3)] [(.ref r3)])) _
    refine XS.iload X1.here hx rfl (hb hby at_36) rfl ?_
    show Steps p.tables e below (T1.setTop (mkF m 38 #[.val (.int i0), .val (.int i1), .val (.int i2), .val (.int (8 : Int32)), .val (.int i2), .val (.ref r3)] [(.int i2), (.ref r3)])) _
    refine st2.trans ?_
    show Steps p.tables e below (T2.setTop (mkF m 41 #[.val (.int i0), .val (.int i1), .val (.int i2), .val (.int (8 : Int32)), .val (.int i2), .val (.ref r3)] [(.int (0 : Int32))])) _
    refine XS.iloadN X2.here hx rfl (hb hby at_41) rfl ?_
    show Steps p.tables e below (T2.setTop (mkF m 42 #[.val (.int i0), .val (.int i1), .val (.int i2), .val (.int (8 : Int32)), .val (.int i2), .val (.ref r3)] [(.int (8 : Int32)), (.int (0 : Int32))])) _
    refine XS.iload X2.here hx rfl (hb hby at_42) rfl ?_
    show Steps p.tables e below (T2.setTop (mkF m 44 #[.val (.int i0), .val (.int i1), .val (.int i2), .val (.int (8 : Int32)), .val (.int i2), .val (.ref r3)] [(.int i2), (.int (8 : Int32)), (.int (0 : Int32))])) _
    refine st3 _ ?_
    show Steps p.tables e below (T3.setTop (mkF m 47 #[.val (.int i0), .val (.int i1), .val (.int i2), .val (.int (8 : Int32)), .val (.int i2), .val (.ref r3)] [(.int (0 : Int32)), (.int (0 : Int32))])) _
    refine XS.icmpNo X3.here hx rfl (hb hby at_47) rfl (teq (by decide : (0 : Int32) = (0 : Int32))).2 ?_
    show Steps p.tables e below (T3.setTop (mkF m 50 #[.val (.int i0), .val (.int i1), .val (.int i2), .val (.int (8 : Int32)), .val (.int i2), .val (.ref r3)] [])) _
    refine XS.iconst X3.here hx rfl (hb hby at_50) ?_
    show Steps p.tables e below (T3.setTop (mkF m 51 #[.val (.int i0), .val (.int i1), .val (.int i2), .val (.int (8 : Int32)), .val (.int i2), .val (.ref r3)] [(.int (1 : Int32))])) _
    refine XS.goto X3.here hx rfl (pc0 := 51) (pc' := 55) rfl (hb hby at_51) (by decide) (by decide) ?_
    show Steps p.tables e below (T3.setTop (mkF m 55 #[.val (.int i0), .val (.int i1), .val (.int i2), .val (.int (8 : Int32)), .val (.int i2), .val (.ref r3)] [(.int (1 : Int32))])) _
    exact retN X3 hx (t := .boolean) Bd.returns (by simp) (hb hby at_55) hr
  · exact ⟨rfl, N3, e3⟩
set_option maxRecDepth 65536 in
set_option maxHeartbeats 40000000 in
theorem own_r0_k8m1c0 (l : Launch) (Z : State) (a0 : Array Value) (hw : ∀ d ∈ tables_1, d.before a0 Z = true) (ws : List Jvm.Cond) (r0 : Addr) (r1 : Addr) (r2 : Addr) (r3 : Addr) (r4 : Addr) (r5 : Addr) (r6 : Addr) (r7 : Addr) (r8 : Addr) (r0_c : Addr) (cl_r0_c : Cell) (r1_c : Addr) (cl_r1_c : Cell) (r2_c : Addr) (cl_r2_c : Cell) (r3_c : Addr) (cl_r3_c : Cell) (r4_c : Addr) (cl_r4_c : Cell) (r5_c : Addr) (cl_r5_c : Cell) (r6_c : Addr) (cl_r6_c : Cell) (r7_c : Addr) (cl_r7_c : Cell) (r8_c : Addr) (cl_r8_c : Cell) (h0 : Heap) (n0 : Nat) (Z0 : n0 ≤ h0.size) (F : own_W Z h0 r0 r1 r2 r3 r4 r5 r6 r7 r8 r0_c cl_r0_c r1_c cl_r1_c r2_c cl_r2_c r3_c cl_r3_c r4_c cl_r4_c r5_c cl_r5_c r6_c cl_r6_c r7_c cl_r7_c r8_c cl_r8_c) (i0 : Int32) (i1 : Int32) (i2 : Int32) (hk : ((i0 &&& (2147483647 : Int32)) % (9 : Int32)) = (8 : Int32)) (hm : (i1 &&& (1 : Int32)) = (1 : Int32)) :
    MetFree l x (head1 (Jvm.Cond.code x code maxLocals ret :: ws) room_1) (fun a U => a = #[(.int i0), (.int i1), (.int i2)] ∧ Z.Warmed39 U.vm ∧ U.heap = h0) (fun _ _ _ _ _ => True) (fun _ U o U' => ∃ v L, o = .returned v ∧ own_Q (.int (1 : Int32)) h0 n0 v U'.heap L ∧ FrameEnd U o U' L room_1.cells room_1.slots) := by
  obtain ⟨S_r0, E_r0, S_r1, E_r1, S_r2, E_r2, S_r3, E_r3, S_r4, E_r4, S_r5, E_r5, S_r6, E_r6, S_r7, E_r7, S_r8, E_r8, F_r0_counts, Ar_r0_c, F_r1_counts, Ar_r1_c, F_r2_counts, Ar_r2_c, F_r3_counts, Ar_r3_c, F_r4_counts, Ar_r4_c, F_r5_counts, Ar_r5_c, F_r6_counts, Ar_r6_c, F_r7_counts, Ar_r7_c, F_r8_counts, Ar_r8_c, Sz_r0_c, El_r0_c_0, Sz_r1_c, El_r1_c_0, El_r1_c_1, Sz_r2_c, El_r2_c_0, Sz_r3_c, Sz_r4_c, Sz_r5_c, Sz_r6_c, Sz_r7_c, Sz_r8_c⟩ := id F
  refine MetFree.of_bodySF (plainFor_of_name own_pn_CommandTakesPinLaw) hisR ?_
  intro p e s m args below meth c s₁ Bd hml0 hP hK
  obtain ⟨rfl, hZ, hh⟩ := hP
  have hx := Bd.exec
  have hby := Bd.bytes
  have hml : c.maxLocals = 6 := hml0
  have hown : s.vm.findClass "com/example/urbana/urbana/protocol/CommandTakesPinLaw" = some m.cls := findClass_of_methodNamed Bd.named
  have X0 : Stand p l e room_1 s m #[(.int i0), (.int i1), (.int i2)] below meth c s₁ [] 0 0 := Stand.of_body Bd
  have e0 : s₁.heap = h0 := by rw [← hh, Bd.state]; rfl
  have N0 := Fr.nil n0
  have pre0 : ∀ t, Steps p.tables e below (s₁.setTop (mkF m 0 #[.val (.int i0), .val (.int i1), .val (.int i2), .unset, .unset, .unset] [])) t → Steps p.tables e below (s₁.setTop (entryFrame m #[(.int i0), (.int i1), (.int i2)] maxLocals)) t := fun t k => castTop (own_ef0_III m i0 i1 i2) k
  obtain ⟨_, _, ⟨T1, L1, k1, n1⟩, -, X1, ⟨Lc1, hQ1, l1, y1, z1⟩, st1⟩ := Jvm.LawKit.callS X0 hx (y := (⟨"com/example/urbana/urbana/protocol/CommandTakesPinLaw", "pick", "(I)Lcom/example/urbana/urbana/protocol/Command;"⟩ : MethodName)) hown (mvT hZ (hw _ (List.mem_of_getElem? (i := 1) rfl))) (mvT hZ (hw _ (List.mem_of_getElem? (i := 2) rfl))) (mvT hZ (hw _ (List.mem_of_getElem? (i := 3) rfl))) (mvT hZ (hw _ (List.mem_of_getElem? (i := 4) rfl))) (by decide) (backOf (W := 0) (own_r1_58 l Z a0 hw [] r0 r1 r2 r3 r4 r5 r6 r7 r8 r0_c cl_r0_c r1_c cl_r1_c r2_c cl_r2_c r3_c cl_r3_c r4_c cl_r4_c r5_c cl_r5_c r6_c cl_r6_c r7_c cl_r7_c r8_c cl_r8_c h0 n0 Z0 F ) hZ (hw _ (List.mem_of_getElem? (i := 4) rfl)) (hw _ (List.mem_of_getElem? (i := 3) rfl)) (by decide) (by decide)) (g := (mkF m 29 #[.val (.int i0), .val (.int i1), .val (.int i2), .val (.int (8 : Int32)), .val (.int (((i1 >>> ((1 : Int32) &&& 31)) &&& (7 : Int32)) - (2 : Int32))), .unset] [(.int (8 : Int32))])) rfl (by rw [hml]; rfl) (argsL := [(.int (8 : Int32))]) (rest := []) (lenOf own_pd0 rfl) rfl (by show 2 * 0 + _ ≤ _; exact Nat.le_of_eq rfl) (hb hby at_29) (fun _ _ => ⟨rfl, e0, (by decide : 0 + 0 ≤ _), (by decide : 0 + 0 ≤ _)⟩)
  dsimp only [Pt.U, Pt.locs, Pt.cells, Pt.slots] at X1 l1 y1 z1 st1 hQ1
  subst l1 y1 z1
  obtain ⟨rfl, N1q, e1⟩ := hQ1
  have N1 := Fr.app N0 N1q
  obtain ⟨cq2, kq2, q2a, q2b, q2c⟩ := isOf hZ e1 E_r3
  obtain ⟨_, _, ⟨T2, L2, k2, n2⟩, -, X2, ⟨Lc2, hQ2, l2, y2, z2⟩, st2⟩ := X1.virtualBack hx (y := (⟨"com/example/urbana/urbana/protocol/Command", "takes", "(I)Z"⟩ : MethodName)) (z := (⟨"com/example/urbana/urbana/protocol/Command", "takes", "(I)Z"⟩ : MethodName)) hown (mvT hZ (hw _ (List.mem_of_getElem? (i := 8) rfl))) (mvT hZ (hw _ (List.mem_of_getElem? (i := 9) rfl))) (notFace_of_selects (args := #[]) (mvT hZ (hw _ (List.mem_of_getElem? (i := 11) rfl)))) (mvT hZ (hw _ (List.mem_of_getElem? (i := 11) rfl))) (mvT hZ (hw _ (List.mem_of_getElem? (i := 10) rfl))) (by decide) (backOf (W := 0) (own_r2_59 l Z a0 hw [] r0 r1 r2 r3 r4 r5 r6 r7 r8 r0_c cl_r0_c r1_c cl_r1_c r2_c cl_r2_c r3_c cl_r3_c r4_c cl_r4_c r5_c cl_r5_c r6_c cl_r6_c r7_c cl_r7_c r8_c cl_r8_c h0 n0 Z0 F (((i1 >>> ((1 : Int32) &&& 31)) &&& (7 : Int32)) - (2 : Int32))) hZ (hw _ (List.mem_of_getElem? (i := 12) rfl)) (hw _ (List.mem_of_getElem? (i := 6) rfl)) (by decide) (by decide)) q2a q2c (g := (mkF m 38 #[.val (.int i0), .val (.int i1), .val (.int i2), .val (.int (8 : Int32)), .val (.int (((i1 >>> ((1 : Int32) &&& 31)) &&& (7 : Int32)) - (2 : Int32))), .val (.ref r3)] [(.int (((i1 >>> ((1 : Int32) &&& 31)) &&& (7 : Int32)) - (2 : Int32))), (.ref r3)])) rfl (by rw [hml]; rfl) (Steps.refl _) (argsL := [(.int (((i1 >>> ((1 : Int32) &&& 31)) &&& (7 : Int32)) - (2 : Int32)))]) (rest := []) (lenOf own_pd1 rfl) rfl (by show 2 * 0 + _ ≤ _; exact Nat.le_of_eq rfl) (hb hby at_38) (fun _ _ => ⟨rfl, e1, (by decide : 0 + 0 ≤ _), (by decide : 0 + 0 ≤ _)⟩)
  dsimp only [Pt.U, Pt.locs, Pt.cells, Pt.slots] at X2 l2 y2 z2 st2 hQ2
  subst l2 y2 z2
  obtain ⟨rfl, N2q, e2⟩ := hQ2
  have N2 := Fr.app N1 N2q
  obtain ⟨_, _, ⟨T3, L3, k3, n3⟩, -, X3, ⟨Lc3, hQ3, l3, y3, z3⟩, st3⟩ := Jvm.LawKit.callS X2 hx (y := (⟨"com/example/urbana/urbana/protocol/CommandTakesPinLaw", "expected", "(II)Z"⟩ : MethodName)) hown (mvT hZ (hw _ (List.mem_of_getElem? (i := 15) rfl))) (mvT hZ (hw _ (List.mem_of_getElem? (i := 16) rfl))) (mvT hZ (hw _ (List.mem_of_getElem? (i := 3) rfl))) (mvT hZ (hw _ (List.mem_of_getElem? (i := 17) rfl))) (by decide) (backOf (W := 1) (own_r3_60 l Z a0 hw [] r0 r1 r2 r3 r4 r5 r6 r7 r8 r0_c cl_r0_c r1_c cl_r1_c r2_c cl_r2_c r3_c cl_r3_c r4_c cl_r4_c r5_c cl_r5_c r6_c cl_r6_c r7_c cl_r7_c r8_c cl_r8_c h0 n0 Z0 F (((i1 >>> ((1 : Int32) &&& 31)) &&& (7 : Int32)) - (2 : Int32))) hZ (hw _ (List.mem_of_getElem? (i := 17) rfl)) (hw _ (List.mem_of_getElem? (i := 3) rfl)) (by decide) (by decide)) (g := (mkF m 44 #[.val (.int i0), .val (.int i1), .val (.int i2), .val (.int (8 : Int32)), .val (.int (((i1 >>> ((1 : Int32) &&& 31)) &&& (7 : Int32)) - (2 : Int32))), .val (.ref r3)] [(.int (((i1 >>> ((1 : Int32) &&& 31)) &&& (7 : Int32)) - (2 : Int32))), (.int (8 : Int32)), (.int (0 : Int32))])) rfl (by rw [hml]; rfl) (argsL := [(.int (8 : Int32)), (.int (((i1 >>> ((1 : Int32) &&& 31)) &&& (7 : Int32)) - (2 : Int32)))]) (rest := [(.int (0 : Int32))]) (lenOf own_pd2 rfl) rfl (by show 2 * 0 + _ ≤ _; exact Nat.le_of_eq rfl) (hb hby at_44) (fun _ _ => ⟨rfl, e2, (by decide : 0 + 0 ≤ _), (by decide : 0 + 0 ≤ _)⟩)
  dsimp only [Pt.U, Pt.locs, Pt.cells, Pt.slots] at X3 l3 y3 z3 st3 hQ3
  subst l3 y3 z3
  obtain ⟨rfl, N3q, e3⟩ := hQ3
  have N3 := Fr.app N2 N3q
  obtain ⟨fs, hr, hrun, hended, hW, hsame⟩ := X3.leave (v := some (.int (1 : Int32))) (fun h => by rw [Bd.returns] at h; cases h)
  refine ⟨_, _, pre0 _ ?_, hrun, hended, _, _, rfl, ?_, ⟨_, rfl⟩, hW, hsame.mono (by decide) (by decide)⟩
  · show Steps p.tables e below (s₁.setTop (mkF m 0 #[.val (.int i0), .val (.int i1), .val (.int i2), .unset, .unset, .unset] [])) _
    refine XS.iloadN X0.here hx rfl (hb hby at_0) rfl ?_
    show Steps p.tables e below (s₁.setTop (mkF m 1 #[.val (.int i0), .val (.int i1), .val (.int i2), .unset, .unset, .unset] [(.int i0)])) _
    refine X0.ldcInt hx hown (mvT hZ (hw _ (List.mem_of_getElem? (i := 0) rfl))) (g := (mkF m 1 #[.val (.int i0), .val (.int i1), .val (.int i2), .unset, .unset, .unset] [(.int i0)])) rfl (hb hby at_1) _ ?_
    show Steps p.tables e below (s₁.setTop (mkF m 3 #[.val (.int i0), .val (.int i1), .val (.int i2), .unset, .unset, .unset] [(.int (2147483647 : Int32)), (.int i0)])) _
    refine XS.iand X0.here hx rfl (hb hby at_3) rfl ?_
    show Steps p.tables e below (s₁.setTop (mkF m 4 #[.val (.int i0), .val (.int i1), .val (.int i2), .unset, .unset, .unset] [(.int (i0 &&& (2147483647 : Int32)))])) _
    refine XS.bipush X0.here hx rfl (hb hby at_4) ?_
    show Steps p.tables e below (s₁.setTop (mkF m 6 #[.val (.int i0), .val (.int i1), .val (.int i2), .unset, .unset, .unset] [(.int (9 : Int32)), (.int (i0 &&& (2147483647 : Int32)))])) _
    refine iremM (g := (mkF m 6 #[.val (.int i0), .val (.int i1), .val (.int i2), .unset, .unset, .unset] [(.int (9 : Int32)), (.int (i0 &&& (2147483647 : Int32)))])) X0 hx rfl (hb hby at_6) rfl (by decide) ?_
    show Steps p.tables e below (s₁.setTop (mkF m 7 #[.val (.int i0), .val (.int i1), .val (.int i2), .unset, .unset, .unset] [(.int ((i0 &&& (2147483647 : Int32)) % (9 : Int32)))])) _
    rw [hk]
    show Steps p.tables e below (s₁.setTop (mkF m 7 #[.val (.int i0), .val (.int i1), .val (.int i2), .unset, .unset, .unset] [(.int (8 : Int32))])) _
    refine XS.istoreN X0.here hx rfl (hb hby at_7) rfl (l' := #[.val (.int i0), .val (.int i1), .val (.int i2), .val (.int (8 : Int32)), .unset, .unset]) rfl ?_
    show Steps p.tables e below (s₁.setTop (mkF m 8 #[.val (.int i0), .val (.int i1), .val (.int i2), .val (.int (8 : Int32)), .unset, .unset] [])) _
    refine XS.iloadN X0.here hx rfl (hb hby at_8) rfl ?_
    show Steps p.tables e below (s₁.setTop (mkF m 9 #[.val (.int i0), .val (.int i1), .val (.int i2), .val (.int (8 : Int32)), .unset, .unset] [(.int i1)])) _
    refine XS.iconst X0.here hx rfl (hb hby at_9) ?_
    show Steps p.tables e below (s₁.setTop (mkF m 10 #[.val (.int i0), .val (.int i1), .val (.int i2), .val (.int (8 : Int32)), .unset, .unset] [(.int (1 : Int32)), (.int i1)])) _
    refine XS.iand X0.here hx rfl (hb hby at_10) rfl ?_
    show Steps p.tables e below (s₁.setTop (mkF m 11 #[.val (.int i0), .val (.int i1), .val (.int i2), .val (.int (8 : Int32)), .unset, .unset] [(.int (i1 &&& (1 : Int32)))])) _
    rw [hm]
    show Steps p.tables e below (s₁.setTop (mkF m 11 #[.val (.int i0), .val (.int i1), .val (.int i2), .val (.int (8 : Int32)), .unset, .unset] [(.int (1 : Int32))])) _
    refine XS.ifNo X0.here hx rfl (hb hby at_11) rfl ((if0 _ _).trans (feq (by decide : ¬ ((1 : Int32) = (0 : Int32)))).1) ?_
    show Steps p.tables e below (s₁.setTop (mkF m 14 #[.val (.int i0), .val (.int i1), .val (.int i2), .val (.int (8 : Int32)), .unset, .unset] [])) _
    refine XS.iloadN X0.here hx rfl (hb hby at_14) rfl ?_
    show Steps p.tables e below (s₁.setTop (mkF m 15 #[.val (.int i0), .val (.int i1), .val (.int i2), .val (.int (8 : Int32)), .unset, .unset] [(.int i1)])) _
    refine XS.iconst X0.here hx rfl (hb hby at_15) ?_
    show Steps p.tables e below (s₁.setTop (mkF m 16 #[.val (.int i0), .val (.int i1), .val (.int i2), .val (.int (8 : Int32)), .unset, .unset] [(.int (1 : Int32)), (.int i1)])) _
    refine XS.ishr X0.here hx rfl (hb hby at_16) rfl ?_
    show Steps p.tables e below (s₁.setTop (mkF m 17 #[.val (.int i0), .val (.int i1), .val (.int i2), .val (.int (8 : Int32)), .unset, .unset] [(.int (i1 >>> ((1 : Int32) &&& 31)))])) _
    refine XS.bipush X0.here hx rfl (hb hby at_17) ?_
    show Steps p.tables e below (s₁.setTop (mkF m 19 #[.val (.int i0), .val (.int i1), .val (.int i2), .val (.int (8 : Int32)), .unset, .unset] [(.int (7 : Int32)), (.int (i1 >>> ((1 : Int32) &&& 31)))])) _
    refine XS.iand X0.here hx rfl (hb hby at_19) rfl ?_
    show Steps p.tables e below (s₁.setTop (mkF m 20 #[.val (.int i0), .val (.int i1), .val (.int i2), .val (.int (8 : Int32)), .unset, .unset] [(.int ((i1 >>> ((1 : Int32) &&& 31)) &&& (7 : Int32)))])) _
    refine XS.iconst X0.here hx rfl (hb hby at_20) ?_
    show Steps p.tables e below (s₁.setTop (mkF m 21 #[.val (.int i0), .val (.int i1), .val (.int i2), .val (.int (8 : Int32)), .unset, .unset] [(.int (2 : Int32)), (.int ((i1 >>> ((1 : Int32) &&& 31)) &&& (7 : Int32)))])) _
    refine XS.isub X0.here hx rfl (hb hby at_21) rfl ?_
    show Steps p.tables e below (s₁.setTop (mkF m 22 #[.val (.int i0), .val (.int i1), .val (.int i2), .val (.int (8 : Int32)), .unset, .unset] [(.int (((i1 >>> ((1 : Int32) &&& 31)) &&& (7 : Int32)) - (2 : Int32)))])) _
    refine XS.goto X0.here hx rfl (pc0 := 22) (pc' := 26) rfl (hb hby at_22) (by decide) (by decide) ?_
    show Steps p.tables e below (s₁.setTop (mkF m 26 #[.val (.int i0), .val (.int i1), .val (.int i2), .val (.int (8 : Int32)), .unset, .unset] [(.int (((i1 >>> ((1 : Int32) &&& 31)) &&& (7 : Int32)) - (2 : Int32)))])) _
    refine XS.istore X0.here hx rfl (hb hby at_26) rfl (l' := #[.val (.int i0), .val (.int i1), .val (.int i2), .val (.int (8 : Int32)), .val (.int (((i1 >>> ((1 : Int32) &&& 31)) &&& (7 : Int32)) - (2 : Int32))), .unset]) rfl ?_
    show Steps p.tables e below (s₁.setTop (mkF m 28 #[.val (.int i0), .val (.int i1), .val (.int i2), .val (.int (8 : Int32)), .val (.int (((i1 >>> ((1 : Int32) &&& 31)) &&& (7 : Int32)) - (2 : Int32))), .unset] [])) _
    refine XS.iloadN X0.here hx rfl (hb hby at_28) rfl ?_
    show Steps p.tables e below (s₁.setTop (mkF m 29 #[.val (.int i0), .val (.int i1), .val (.int i2), .val (.int (8 : Int32)), .val (.int (((i1 >>> ((1 : Int32) &&& 31)) &&& (7 : Int32)) - (2 : Int32))), .unset] [(.int (8 : Int32))])) _
    refine st1 _ ?_
    show Steps p.tables e below (T1.setTop (mkF m 32 #[.val (.int i0), .val (.int i1), .val (.int i2), .val (.int (8 : Int32)), .val (.int (((i1 >>> ((1 : Int32) &&& 31)) &&& (7 : Int32)) - (2 : Int32))), .unset] [(.ref r3)])) _
    refine XS.astore X1.here hx rfl (hb hby at_32) rfl rfl (l' := #[.val (.int i0), .val (.int i1), .val (.int i2), .val (.int (8 : Int32)), .val (.int (((i1 >>> ((1 : Int32) &&& 31)) &&& (7 : Int32)) - (2 : Int32))), .val (.ref r3)]) rfl ?_
    show Steps p.tables e below (T1.setTop (mkF m 34 #[.val (.int i0), .val (.int i1), .val (.int i2), .val (.int (8 : Int32)), .val (.int (((i1 >>> ((1 : Int32) &&& 31)) &&& (7 : Int32)) - (2 : Int32))), .val (.ref r3)] [])) _
    refine XS.aload X1.here hx rfl (hb hby at_34) rfl rfl ?_
    show Steps p.tables e below (T1.setTop (mkF m 36 #[.val (.int i0), .val (.int i1), .val (.int i2), .val (.int (8 : Int32)), .val (.int (((i1 >>> ((1 : Int32) &&& 31)) &&& (7 : Int32)) - (2 : Int32))), .val (.ref r3)] [(.ref r3)])) _
    refine XS.iload X1.here hx rfl (hb hby at_36) rfl ?_
    show Steps p.tables e below (T1.setTop (mkF m 38 #[.val (.int i0), .val (.int i1), .val (.int i2), .val (.int (8 : Int32)), .val (.int (((i1 >>> ((1 : Int32) &&& 31)) &&& (7 : Int32)) - (2 : Int32))), .val (.ref r3)] [(.int (((i1 >>> ((1 : Int32) &&& 31)) &&& (7 : Int32)) - (2 : Int32))), (.ref r3)])) _
    refine st2.trans ?_
    show Steps p.tables e below (T2.setTop (mkF m 41 #[.val (.int i0), .val (.int i1), .val (.int i2), .val (.int (8 : Int32)), .val (.int (((i1 >>> ((1 : Int32) &&& 31)) &&& (7 : Int32)) - (2 : Int32))), .val (.ref r3)] [(.int (0 : Int32))])) _
    refine XS.iloadN X2.here hx rfl (hb hby at_41) rfl ?_
    show Steps p.tables e below (T2.setTop (mkF m 42 #[.val (.int i0), .val (.int i1), .val (.int i2), .val (.int (8 : Int32)), .val (.int (((i1 >>> ((1 : Int32) &&& 31)) &&& (7 : Int32)) - (2 : Int32))), .val (.ref r3)] [(.int (8 : Int32)), (.int (0 : Int32))])) _
    refine XS.iload X2.here hx rfl (hb hby at_42) rfl ?_
    show Steps p.tables e below (T2.setTop (mkF m 44 #[.val (.int i0), .val (.int i1), .val (.int i2), .val (.int (8 : Int32)), .val (.int (((i1 >>> ((1 : Int32) &&& 31)) &&& (7 : Int32)) - (2 : Int32))), .val (.ref r3)] [(.int (((i1 >>> ((1 : Int32) &&& 31)) &&& (7 : Int32)) - (2 : Int32))), (.int (8 : Int32)), (.int (0 : Int32))])) _
    refine st3 _ ?_
    show Steps p.tables e below (T3.setTop (mkF m 47 #[.val (.int i0), .val (.int i1), .val (.int i2), .val (.int (8 : Int32)), .val (.int (((i1 >>> ((1 : Int32) &&& 31)) &&& (7 : Int32)) - (2 : Int32))), .val (.ref r3)] [(.int (0 : Int32)), (.int (0 : Int32))])) _
    refine XS.icmpNo X3.here hx rfl (hb hby at_47) rfl (teq (by decide : (0 : Int32) = (0 : Int32))).2 ?_
    show Steps p.tables e below (T3.setTop (mkF m 50 #[.val (.int i0), .val (.int i1), .val (.int i2), .val (.int (8 : Int32)), .val (.int (((i1 >>> ((1 : Int32) &&& 31)) &&& (7 : Int32)) - (2 : Int32))), .val (.ref r3)] [])) _
    refine XS.iconst X3.here hx rfl (hb hby at_50) ?_
    show Steps p.tables e below (T3.setTop (mkF m 51 #[.val (.int i0), .val (.int i1), .val (.int i2), .val (.int (8 : Int32)), .val (.int (((i1 >>> ((1 : Int32) &&& 31)) &&& (7 : Int32)) - (2 : Int32))), .val (.ref r3)] [(.int (1 : Int32))])) _
    refine XS.goto X3.here hx rfl (pc0 := 51) (pc' := 55) rfl (hb hby at_51) (by decide) (by decide) ?_
    show Steps p.tables e below (T3.setTop (mkF m 55 #[.val (.int i0), .val (.int i1), .val (.int i2), .val (.int (8 : Int32)), .val (.int (((i1 >>> ((1 : Int32) &&& 31)) &&& (7 : Int32)) - (2 : Int32))), .val (.ref r3)] [(.int (1 : Int32))])) _
    exact retN X3 hx (t := .boolean) Bd.returns (by simp) (hb hby at_55) hr
  · exact ⟨rfl, N3, e3⟩
theorem own_r0 (l : Launch) (Z : State) (a0 : Array Value) (hw : ∀ d ∈ tables_1, d.before a0 Z = true) (ws : List Jvm.Cond) (r0 : Addr) (r1 : Addr) (r2 : Addr) (r3 : Addr) (r4 : Addr) (r5 : Addr) (r6 : Addr) (r7 : Addr) (r8 : Addr) (r0_c : Addr) (cl_r0_c : Cell) (r1_c : Addr) (cl_r1_c : Cell) (r2_c : Addr) (cl_r2_c : Cell) (r3_c : Addr) (cl_r3_c : Cell) (r4_c : Addr) (cl_r4_c : Cell) (r5_c : Addr) (cl_r5_c : Cell) (r6_c : Addr) (cl_r6_c : Cell) (r7_c : Addr) (cl_r7_c : Cell) (r8_c : Addr) (cl_r8_c : Cell) (h0 : Heap) (n0 : Nat) (Z0 : n0 ≤ h0.size) (F : own_W Z h0 r0 r1 r2 r3 r4 r5 r6 r7 r8 r0_c cl_r0_c r1_c cl_r1_c r2_c cl_r2_c r3_c cl_r3_c r4_c cl_r4_c r5_c cl_r5_c r6_c cl_r6_c r7_c cl_r7_c r8_c cl_r8_c) (i0 i1 i2 : Int32) :
    MetFree l x (head1 (Jvm.Cond.code x code maxLocals ret :: ws) room_1) (fun a U => a = #[(.int i0), (.int i1), (.int i2)] ∧ Z.Warmed39 U.vm ∧ U.heap = h0) (fun _ _ _ _ _ => True) (fun _ U o U' => ∃ v L, o = .returned v ∧ own_Q (.int (1 : Int32)) h0 n0 v U'.heap L ∧ FrameEnd U o U' L room_1.cells room_1.slots) := by
  rcases own_range i0 with hk | hk | hk | hk | hk | hk | hk | hk | hk
  · rcases own_range1 i1 with hm | hm
    · by_cases h3 : i2 = (3 : Int32)
      · exact own_r0_k0m0c0 l Z a0 hw ws r0 r1 r2 r3 r4 r5 r6 r7 r8 r0_c cl_r0_c r1_c cl_r1_c r2_c cl_r2_c r3_c cl_r3_c r4_c cl_r4_c r5_c cl_r5_c r6_c cl_r6_c r7_c cl_r7_c r8_c cl_r8_c h0 n0 Z0 F i0 i1 i2 hk hm h3
      · exact own_r0_k0m0c1 l Z a0 hw ws r0 r1 r2 r3 r4 r5 r6 r7 r8 r0_c cl_r0_c r1_c cl_r1_c r2_c cl_r2_c r3_c cl_r3_c r4_c cl_r4_c r5_c cl_r5_c r6_c cl_r6_c r7_c cl_r7_c r8_c cl_r8_c h0 n0 Z0 F i0 i1 i2 hk hm h3
    · by_cases h3 : (((i1 >>> ((1 : Int32) &&& 31)) &&& (7 : Int32)) - (2 : Int32)) = (3 : Int32)
      · exact own_r0_k0m1c0 l Z a0 hw ws r0 r1 r2 r3 r4 r5 r6 r7 r8 r0_c cl_r0_c r1_c cl_r1_c r2_c cl_r2_c r3_c cl_r3_c r4_c cl_r4_c r5_c cl_r5_c r6_c cl_r6_c r7_c cl_r7_c r8_c cl_r8_c h0 n0 Z0 F i0 i1 i2 hk hm h3
      · exact own_r0_k0m1c1 l Z a0 hw ws r0 r1 r2 r3 r4 r5 r6 r7 r8 r0_c cl_r0_c r1_c cl_r1_c r2_c cl_r2_c r3_c cl_r3_c r4_c cl_r4_c r5_c cl_r5_c r6_c cl_r6_c r7_c cl_r7_c r8_c cl_r8_c h0 n0 Z0 F i0 i1 i2 hk hm h3
  · rcases own_range1 i1 with hm | hm
    · by_cases h0' : i2 = (0 : Int32)
      · have h3 : ¬ (i2 = (3 : Int32)) := by rw [h0']; decide
        exact own_r0_k1m0c0 l Z a0 hw ws r0 r1 r2 r3 r4 r5 r6 r7 r8 r0_c cl_r0_c r1_c cl_r1_c r2_c cl_r2_c r3_c cl_r3_c r4_c cl_r4_c r5_c cl_r5_c r6_c cl_r6_c r7_c cl_r7_c r8_c cl_r8_c h0 n0 Z0 F i0 i1 i2 hk hm h0' h3
      · by_cases h3 : i2 = (3 : Int32)
        · exact own_r0_k1m0c1 l Z a0 hw ws r0 r1 r2 r3 r4 r5 r6 r7 r8 r0_c cl_r0_c r1_c cl_r1_c r2_c cl_r2_c r3_c cl_r3_c r4_c cl_r4_c r5_c cl_r5_c r6_c cl_r6_c r7_c cl_r7_c r8_c cl_r8_c h0 n0 Z0 F i0 i1 i2 hk hm h0' h3
        · exact own_r0_k1m0c2 l Z a0 hw ws r0 r1 r2 r3 r4 r5 r6 r7 r8 r0_c cl_r0_c r1_c cl_r1_c r2_c cl_r2_c r3_c cl_r3_c r4_c cl_r4_c r5_c cl_r5_c r6_c cl_r6_c r7_c cl_r7_c r8_c cl_r8_c h0 n0 Z0 F i0 i1 i2 hk hm h0' h3
    · by_cases h0' : (((i1 >>> ((1 : Int32) &&& 31)) &&& (7 : Int32)) - (2 : Int32)) = (0 : Int32)
      · have h3 : ¬ ((((i1 >>> ((1 : Int32) &&& 31)) &&& (7 : Int32)) - (2 : Int32)) = (3 : Int32)) := by rw [h0']; decide
        exact own_r0_k1m1c0 l Z a0 hw ws r0 r1 r2 r3 r4 r5 r6 r7 r8 r0_c cl_r0_c r1_c cl_r1_c r2_c cl_r2_c r3_c cl_r3_c r4_c cl_r4_c r5_c cl_r5_c r6_c cl_r6_c r7_c cl_r7_c r8_c cl_r8_c h0 n0 Z0 F i0 i1 i2 hk hm h0' h3
      · by_cases h3 : (((i1 >>> ((1 : Int32) &&& 31)) &&& (7 : Int32)) - (2 : Int32)) = (3 : Int32)
        · exact own_r0_k1m1c1 l Z a0 hw ws r0 r1 r2 r3 r4 r5 r6 r7 r8 r0_c cl_r0_c r1_c cl_r1_c r2_c cl_r2_c r3_c cl_r3_c r4_c cl_r4_c r5_c cl_r5_c r6_c cl_r6_c r7_c cl_r7_c r8_c cl_r8_c h0 n0 Z0 F i0 i1 i2 hk hm h0' h3
        · exact own_r0_k1m1c2 l Z a0 hw ws r0 r1 r2 r3 r4 r5 r6 r7 r8 r0_c cl_r0_c r1_c cl_r1_c r2_c cl_r2_c r3_c cl_r3_c r4_c cl_r4_c r5_c cl_r5_c r6_c cl_r6_c r7_c cl_r7_c r8_c cl_r8_c h0 n0 Z0 F i0 i1 i2 hk hm h0' h3
  · rcases own_range1 i1 with hm | hm
    · by_cases h1 : i2 = (1 : Int32)
      · exact own_r0_k2m0c0 l Z a0 hw ws r0 r1 r2 r3 r4 r5 r6 r7 r8 r0_c cl_r0_c r1_c cl_r1_c r2_c cl_r2_c r3_c cl_r3_c r4_c cl_r4_c r5_c cl_r5_c r6_c cl_r6_c r7_c cl_r7_c r8_c cl_r8_c h0 n0 Z0 F i0 i1 i2 hk hm h1
      · exact own_r0_k2m0c1 l Z a0 hw ws r0 r1 r2 r3 r4 r5 r6 r7 r8 r0_c cl_r0_c r1_c cl_r1_c r2_c cl_r2_c r3_c cl_r3_c r4_c cl_r4_c r5_c cl_r5_c r6_c cl_r6_c r7_c cl_r7_c r8_c cl_r8_c h0 n0 Z0 F i0 i1 i2 hk hm h1
    · by_cases h1 : (((i1 >>> ((1 : Int32) &&& 31)) &&& (7 : Int32)) - (2 : Int32)) = (1 : Int32)
      · exact own_r0_k2m1c0 l Z a0 hw ws r0 r1 r2 r3 r4 r5 r6 r7 r8 r0_c cl_r0_c r1_c cl_r1_c r2_c cl_r2_c r3_c cl_r3_c r4_c cl_r4_c r5_c cl_r5_c r6_c cl_r6_c r7_c cl_r7_c r8_c cl_r8_c h0 n0 Z0 F i0 i1 i2 hk hm h1
      · exact own_r0_k2m1c1 l Z a0 hw ws r0 r1 r2 r3 r4 r5 r6 r7 r8 r0_c cl_r0_c r1_c cl_r1_c r2_c cl_r2_c r3_c cl_r3_c r4_c cl_r4_c r5_c cl_r5_c r6_c cl_r6_c r7_c cl_r7_c r8_c cl_r8_c h0 n0 Z0 F i0 i1 i2 hk hm h1
  · rcases own_range1 i1 with hm | hm
    · exact own_r0_k3m0c0 l Z a0 hw ws r0 r1 r2 r3 r4 r5 r6 r7 r8 r0_c cl_r0_c r1_c cl_r1_c r2_c cl_r2_c r3_c cl_r3_c r4_c cl_r4_c r5_c cl_r5_c r6_c cl_r6_c r7_c cl_r7_c r8_c cl_r8_c h0 n0 Z0 F i0 i1 i2 hk hm 
    · exact own_r0_k3m1c0 l Z a0 hw ws r0 r1 r2 r3 r4 r5 r6 r7 r8 r0_c cl_r0_c r1_c cl_r1_c r2_c cl_r2_c r3_c cl_r3_c r4_c cl_r4_c r5_c cl_r5_c r6_c cl_r6_c r7_c cl_r7_c r8_c cl_r8_c h0 n0 Z0 F i0 i1 i2 hk hm 
  · rcases own_range1 i1 with hm | hm
    · exact own_r0_k4m0c0 l Z a0 hw ws r0 r1 r2 r3 r4 r5 r6 r7 r8 r0_c cl_r0_c r1_c cl_r1_c r2_c cl_r2_c r3_c cl_r3_c r4_c cl_r4_c r5_c cl_r5_c r6_c cl_r6_c r7_c cl_r7_c r8_c cl_r8_c h0 n0 Z0 F i0 i1 i2 hk hm 
    · exact own_r0_k4m1c0 l Z a0 hw ws r0 r1 r2 r3 r4 r5 r6 r7 r8 r0_c cl_r0_c r1_c cl_r1_c r2_c cl_r2_c r3_c cl_r3_c r4_c cl_r4_c r5_c cl_r5_c r6_c cl_r6_c r7_c cl_r7_c r8_c cl_r8_c h0 n0 Z0 F i0 i1 i2 hk hm 
  · rcases own_range1 i1 with hm | hm
    · exact own_r0_k5m0c0 l Z a0 hw ws r0 r1 r2 r3 r4 r5 r6 r7 r8 r0_c cl_r0_c r1_c cl_r1_c r2_c cl_r2_c r3_c cl_r3_c r4_c cl_r4_c r5_c cl_r5_c r6_c cl_r6_c r7_c cl_r7_c r8_c cl_r8_c h0 n0 Z0 F i0 i1 i2 hk hm 
    · exact own_r0_k5m1c0 l Z a0 hw ws r0 r1 r2 r3 r4 r5 r6 r7 r8 r0_c cl_r0_c r1_c cl_r1_c r2_c cl_r2_c r3_c cl_r3_c r4_c cl_r4_c r5_c cl_r5_c r6_c cl_r6_c r7_c cl_r7_c r8_c cl_r8_c h0 n0 Z0 F i0 i1 i2 hk hm 
  · rcases own_range1 i1 with hm | hm
    · exact own_r0_k6m0c0 l Z a0 hw ws r0 r1 r2 r3 r4 r5 r6 r7 r8 r0_c cl_r0_c r1_c cl_r1_c r2_c cl_r2_c r3_c cl_r3_c r4_c cl_r4_c r5_c cl_r5_c r6_c cl_r6_c r7_c cl_r7_c r8_c cl_r8_c h0 n0 Z0 F i0 i1 i2 hk hm 
    · exact own_r0_k6m1c0 l Z a0 hw ws r0 r1 r2 r3 r4 r5 r6 r7 r8 r0_c cl_r0_c r1_c cl_r1_c r2_c cl_r2_c r3_c cl_r3_c r4_c cl_r4_c r5_c cl_r5_c r6_c cl_r6_c r7_c cl_r7_c r8_c cl_r8_c h0 n0 Z0 F i0 i1 i2 hk hm 
  · rcases own_range1 i1 with hm | hm
    · exact own_r0_k7m0c0 l Z a0 hw ws r0 r1 r2 r3 r4 r5 r6 r7 r8 r0_c cl_r0_c r1_c cl_r1_c r2_c cl_r2_c r3_c cl_r3_c r4_c cl_r4_c r5_c cl_r5_c r6_c cl_r6_c r7_c cl_r7_c r8_c cl_r8_c h0 n0 Z0 F i0 i1 i2 hk hm 
    · exact own_r0_k7m1c0 l Z a0 hw ws r0 r1 r2 r3 r4 r5 r6 r7 r8 r0_c cl_r0_c r1_c cl_r1_c r2_c cl_r2_c r3_c cl_r3_c r4_c cl_r4_c r5_c cl_r5_c r6_c cl_r6_c r7_c cl_r7_c r8_c cl_r8_c h0 n0 Z0 F i0 i1 i2 hk hm 
  · rcases own_range1 i1 with hm | hm
    · exact own_r0_k8m0c0 l Z a0 hw ws r0 r1 r2 r3 r4 r5 r6 r7 r8 r0_c cl_r0_c r1_c cl_r1_c r2_c cl_r2_c r3_c cl_r3_c r4_c cl_r4_c r5_c cl_r5_c r6_c cl_r6_c r7_c cl_r7_c r8_c cl_r8_c h0 n0 Z0 F i0 i1 i2 hk hm 
    · exact own_r0_k8m1c0 l Z a0 hw ws r0 r1 r2 r3 r4 r5 r6 r7 r8 r0_c cl_r0_c r1_c cl_r1_c r2_c cl_r2_c r3_c cl_r3_c r4_c cl_r4_c r5_c cl_r5_c r6_c cl_r6_c r7_c cl_r7_c r8_c cl_r8_c h0 n0 Z0 F i0 i1 i2 hk hm 
set_option maxRecDepth 65536 in
set_option maxHeartbeats 40000000 in
theorem own_comes {Post : Tables → Env → Array Value → State → Outcome → State → Prop} (hpost : ∀ tb e args s v u, (limb_1_1.after args s (.returned v) u = true ∧ limb_1_2.after args s (.returned v) u = true ∧ True) → FrameEnd s (.returned v) u (Jvm.fieldLocs frame_1_writes args s ++ Jvm.arrayLocs frame_1_arrays args s ++ Jvm.staticLocs frame_1_statics s) 0 0 → Post tb e args s (.returned v) u) :
    ArmFor flags0 classFile x code maxLocals ret World_1 tables_1 room_1 Calls_1 rest_1 Pre_1 Post := by
  intro l hfl _ _ p e ha hc hk s m args below hf hA hF happ hP
  obtain ⟨hcalls, hrest, hpre⟩ := hP
  obtain ⟨-, -, -, hnamed, -, -, -, hat⟩ := (Spec.applies_iff hf).mp happ
  obtain ⟨hg, hn⟩ := and_e (Cond.before_iff.mp (show (Jvm.Cond.and given_1 narrow_1).before args s = true from hpre))
  obtain ⟨gl1, gr1⟩ := and_e hg
  obtain ⟨gl2, gr2⟩ := and_e gr1
  obtain ⟨gl3, gr3⟩ := and_e gr2
  obtain ⟨w0, w1, w2, rfl⟩ : ∃ w0 w1 w2 : Value, args = #[w0, w1, w2] := by
    have hs : args.size = 3 := by simpa [Cond.value, given_1] using gl1
    obtain ⟨L⟩ := args
    match L, hs with
    | [w0, w1, w2], _ => exact ⟨w0, w1, w2, rfl⟩
  have hw := fun d (hd : d ∈ tables_1) => atoms_spec (ws := Jvm.Cond.code x code maxLocals ret :: tables_1) hat d (List.mem_cons_of_mem _ hd)
  obtain ⟨i0, ei0⟩ := is_v gl2
  obtain rfl : w0 = (.int i0) := Option.some.inj ei0
  obtain ⟨i1, ei1⟩ := is_v gl3
  obtain rfl : w1 = (.int i1) := Option.some.inj ei1
  obtain ⟨i2, ei2⟩ := is_v gr3
  obtain rfl : w2 = (.int i2) := Option.some.inj ei2
  obtain ⟨nl1, nr1⟩ := and_e hn
  obtain ⟨nl2, nr2⟩ := and_e nr1
  obtain ⟨nl3, nr3⟩ := and_e nr2
  obtain ⟨nl4, nr4⟩ := and_e nr3
  obtain ⟨nl5, nr5⟩ := and_e nr4
  obtain ⟨nl6, nr6⟩ := and_e nr5
  obtain ⟨nl7, nr7⟩ := and_e nr6
  obtain ⟨nl8, nr8⟩ := and_e nr7
  obtain ⟨nl9, nr9⟩ := and_e nr8
  obtain ⟨nl10, nr10⟩ := and_e nr9
  obtain ⟨nl11, nr11⟩ := and_e nr10
  obtain ⟨nl12, nr12⟩ := and_e nr11
  obtain ⟨nl13, nr13⟩ := and_e nr12
  obtain ⟨nl14, nr14⟩ := and_e nr13
  obtain ⟨nl15, nr15⟩ := and_e nr14
  obtain ⟨nl16, nr16⟩ := and_e nr15
  obtain ⟨nl17, nr17⟩ := and_e nr16
  obtain ⟨nl18, nr18⟩ := and_e nr17
  obtain ⟨nl19, nr19⟩ := and_e nr18
  obtain ⟨nl20, nr20⟩ := and_e nr19
  obtain ⟨nl21, nr21⟩ := and_e nr20
  obtain ⟨nl22, nr22⟩ := and_e nr21
  obtain ⟨nl23, nr23⟩ := and_e nr22
  obtain ⟨nl24, nr24⟩ := and_e nr23
  obtain ⟨nl25, nr25⟩ := and_e nr24
  obtain ⟨nl26, nr26⟩ := and_e nr25
  obtain ⟨nl27, nr27⟩ := and_e nr26
  obtain ⟨nl28, nr28⟩ := and_e nr27
  obtain ⟨nl29, nr29⟩ := and_e nr28
  obtain ⟨nl30, nr30⟩ := and_e nr29
  obtain ⟨r0, ev_r0⟩ := exa_v nl1
  have S_r0 : Sta s s.heap "com/example/urbana/urbana/protocol/Command" "FLUSH_UNOWNED" "Lcom/example/urbana/urbana/protocol/Command;" (.ref r0) := Sta.start ev_r0 (Or.inr ⟨(hw _ (List.mem_of_getElem? (i := 6) rfl)), (hw _ (List.mem_of_getElem? (i := 7) rfl))⟩)
  have E_r0 : Exa s s.heap r0 "com/example/urbana/urbana/protocol/Command" := Exa.start ev_r0 nl1
  obtain ⟨r1, ev_r1⟩ := exa_v nl5
  have S_r1 : Sta s s.heap "com/example/urbana/urbana/protocol/Command" "DIGEST" "Lcom/example/urbana/urbana/protocol/Command;" (.ref r1) := Sta.start ev_r1 (Or.inr ⟨(hw _ (List.mem_of_getElem? (i := 6) rfl)), (hw _ (List.mem_of_getElem? (i := 19) rfl))⟩)
  have E_r1 : Exa s s.heap r1 "com/example/urbana/urbana/protocol/Command" := Exa.start ev_r1 nl5
  obtain ⟨r2, ev_r2⟩ := exa_v nl10
  have S_r2 : Sta s s.heap "com/example/urbana/urbana/protocol/Command" "UNIQUES" "Lcom/example/urbana/urbana/protocol/Command;" (.ref r2) := Sta.start ev_r2 (Or.inr ⟨(hw _ (List.mem_of_getElem? (i := 6) rfl)), (hw _ (List.mem_of_getElem? (i := 21) rfl))⟩)
  have E_r2 : Exa s s.heap r2 "com/example/urbana/urbana/protocol/Command" := Exa.start ev_r2 nl10
  obtain ⟨r3, ev_r3⟩ := exa_v nl14
  have S_r3 : Sta s s.heap "com/example/urbana/urbana/protocol/Command" "INVALID" "Lcom/example/urbana/urbana/protocol/Command;" (.ref r3) := Sta.start ev_r3 (Or.inr ⟨(hw _ (List.mem_of_getElem? (i := 6) rfl)), (hw _ (List.mem_of_getElem? (i := 23) rfl))⟩)
  have E_r3 : Exa s s.heap r3 "com/example/urbana/urbana/protocol/Command" := Exa.start ev_r3 nl14
  obtain ⟨r4, ev_r4⟩ := exa_v nl17
  have S_r4 : Sta s s.heap "com/example/urbana/urbana/protocol/Command" "STATS" "Lcom/example/urbana/urbana/protocol/Command;" (.ref r4) := Sta.start ev_r4 (Or.inr ⟨(hw _ (List.mem_of_getElem? (i := 6) rfl)), (hw _ (List.mem_of_getElem? (i := 25) rfl))⟩)
  have E_r4 : Exa s s.heap r4 "com/example/urbana/urbana/protocol/Command" := Exa.start ev_r4 nl17
  obtain ⟨r5, ev_r5⟩ := exa_v nl20
  have S_r5 : Sta s s.heap "com/example/urbana/urbana/protocol/Command" "MG" "Lcom/example/urbana/urbana/protocol/Command;" (.ref r5) := Sta.start ev_r5 (Or.inr ⟨(hw _ (List.mem_of_getElem? (i := 6) rfl)), (hw _ (List.mem_of_getElem? (i := 27) rfl))⟩)
  have E_r5 : Exa s s.heap r5 "com/example/urbana/urbana/protocol/Command" := Exa.start ev_r5 nl20
  obtain ⟨r6, ev_r6⟩ := exa_v nl23
  have S_r6 : Sta s s.heap "com/example/urbana/urbana/protocol/Command" "GET" "Lcom/example/urbana/urbana/protocol/Command;" (.ref r6) := Sta.start ev_r6 (Or.inr ⟨(hw _ (List.mem_of_getElem? (i := 6) rfl)), (hw _ (List.mem_of_getElem? (i := 29) rfl))⟩)
  have E_r6 : Exa s s.heap r6 "com/example/urbana/urbana/protocol/Command" := Exa.start ev_r6 nl23
  obtain ⟨r7, ev_r7⟩ := exa_v nl26
  have S_r7 : Sta s s.heap "com/example/urbana/urbana/protocol/Command" "SET" "Lcom/example/urbana/urbana/protocol/Command;" (.ref r7) := Sta.start ev_r7 (Or.inr ⟨(hw _ (List.mem_of_getElem? (i := 6) rfl)), (hw _ (List.mem_of_getElem? (i := 31) rfl))⟩)
  have E_r7 : Exa s s.heap r7 "com/example/urbana/urbana/protocol/Command" := Exa.start ev_r7 nl26
  obtain ⟨r8, ev_r8⟩ := exa_v nl29
  have S_r8 : Sta s s.heap "com/example/urbana/urbana/protocol/Command" "CAS" "Lcom/example/urbana/urbana/protocol/Command;" (.ref r8) := Sta.start ev_r8 (Or.inr ⟨(hw _ (List.mem_of_getElem? (i := 6) rfl)), (hw _ (List.mem_of_getElem? (i := 33) rfl))⟩)
  have E_r8 : Exa s s.heap r8 "com/example/urbana/urbana/protocol/Command" := Exa.start ev_r8 nl29
  obtain ⟨r0_c, ev_r0_c⟩ := arr_v nl2
  have F_r0_counts : Fld s s.heap r0 "com/example/urbana/urbana/protocol/Command" "counts" "[I" (.ref r0_c) := Fld.start ((fld_at ev_r0).symm.trans ev_r0_c)
  obtain ⟨cl_r0_c, Ar0_r0_c⟩ := Arr.start ev_r0_c nl2
  have Ar_r0_c : Arr s s.heap r0_c cl_r0_c .int := Ar0_r0_c
  obtain ⟨r1_c, ev_r1_c⟩ := arr_v nl6
  have F_r1_counts : Fld s s.heap r1 "com/example/urbana/urbana/protocol/Command" "counts" "[I" (.ref r1_c) := Fld.start ((fld_at ev_r1).symm.trans ev_r1_c)
  obtain ⟨cl_r1_c, Ar0_r1_c⟩ := Arr.start ev_r1_c nl6
  have Ar_r1_c : Arr s s.heap r1_c cl_r1_c .int := Ar0_r1_c
  obtain ⟨r2_c, ev_r2_c⟩ := arr_v nl11
  have F_r2_counts : Fld s s.heap r2 "com/example/urbana/urbana/protocol/Command" "counts" "[I" (.ref r2_c) := Fld.start ((fld_at ev_r2).symm.trans ev_r2_c)
  obtain ⟨cl_r2_c, Ar0_r2_c⟩ := Arr.start ev_r2_c nl11
  have Ar_r2_c : Arr s s.heap r2_c cl_r2_c .int := Ar0_r2_c
  obtain ⟨r3_c, ev_r3_c⟩ := arr_v nl15
  have F_r3_counts : Fld s s.heap r3 "com/example/urbana/urbana/protocol/Command" "counts" "[I" (.ref r3_c) := Fld.start ((fld_at ev_r3).symm.trans ev_r3_c)
  obtain ⟨cl_r3_c, Ar0_r3_c⟩ := Arr.start ev_r3_c nl15
  have Ar_r3_c : Arr s s.heap r3_c cl_r3_c .int := Ar0_r3_c
  obtain ⟨r4_c, ev_r4_c⟩ := arr_v nl18
  have F_r4_counts : Fld s s.heap r4 "com/example/urbana/urbana/protocol/Command" "counts" "[I" (.ref r4_c) := Fld.start ((fld_at ev_r4).symm.trans ev_r4_c)
  obtain ⟨cl_r4_c, Ar0_r4_c⟩ := Arr.start ev_r4_c nl18
  have Ar_r4_c : Arr s s.heap r4_c cl_r4_c .int := Ar0_r4_c
  obtain ⟨r5_c, ev_r5_c⟩ := arr_v nl21
  have F_r5_counts : Fld s s.heap r5 "com/example/urbana/urbana/protocol/Command" "counts" "[I" (.ref r5_c) := Fld.start ((fld_at ev_r5).symm.trans ev_r5_c)
  obtain ⟨cl_r5_c, Ar0_r5_c⟩ := Arr.start ev_r5_c nl21
  have Ar_r5_c : Arr s s.heap r5_c cl_r5_c .int := Ar0_r5_c
  obtain ⟨r6_c, ev_r6_c⟩ := arr_v nl24
  have F_r6_counts : Fld s s.heap r6 "com/example/urbana/urbana/protocol/Command" "counts" "[I" (.ref r6_c) := Fld.start ((fld_at ev_r6).symm.trans ev_r6_c)
  obtain ⟨cl_r6_c, Ar0_r6_c⟩ := Arr.start ev_r6_c nl24
  have Ar_r6_c : Arr s s.heap r6_c cl_r6_c .int := Ar0_r6_c
  obtain ⟨r7_c, ev_r7_c⟩ := arr_v nl27
  have F_r7_counts : Fld s s.heap r7 "com/example/urbana/urbana/protocol/Command" "counts" "[I" (.ref r7_c) := Fld.start ((fld_at ev_r7).symm.trans ev_r7_c)
  obtain ⟨cl_r7_c, Ar0_r7_c⟩ := Arr.start ev_r7_c nl27
  have Ar_r7_c : Arr s s.heap r7_c cl_r7_c .int := Ar0_r7_c
  obtain ⟨r8_c, ev_r8_c⟩ := arr_v nl30
  have F_r8_counts : Fld s s.heap r8 "com/example/urbana/urbana/protocol/Command" "counts" "[I" (.ref r8_c) := Fld.start ((fld_at ev_r8).symm.trans ev_r8_c)
  obtain ⟨cl_r8_c, Ar0_r8_c⟩ := Arr.start ev_r8_c nl30
  have Ar_r8_c : Arr s s.heap r8_c cl_r8_c .int := Ar0_r8_c
  have Sz_r0_c : cl_r0_c.slots.size = (1 : Int32).toNatClampNeg := own_len (own_eqI nl3 rfl) ev_r0_c Ar_r0_c
  have El_r0_c_0 : cl_r0_c.slots[(0 : Int32).toNatClampNeg]? = some (.int (3 : Int32)) := own_elem (own_eqI nl4 rfl) ev_r0_c Ar_r0_c
  have Sz_r1_c : cl_r1_c.slots.size = (2 : Int32).toNatClampNeg := own_len (own_eqI nl7 rfl) ev_r1_c Ar_r1_c
  have El_r1_c_0 : cl_r1_c.slots[(0 : Int32).toNatClampNeg]? = some (.int (0 : Int32)) := own_elem (own_eqI nl8 rfl) ev_r1_c Ar_r1_c
  have El_r1_c_1 : cl_r1_c.slots[(1 : Int32).toNatClampNeg]? = some (.int (3 : Int32)) := own_elem (own_eqI nl9 rfl) ev_r1_c Ar_r1_c
  have Sz_r2_c : cl_r2_c.slots.size = (1 : Int32).toNatClampNeg := own_len (own_eqI nl12 rfl) ev_r2_c Ar_r2_c
  have El_r2_c_0 : cl_r2_c.slots[(0 : Int32).toNatClampNeg]? = some (.int (1 : Int32)) := own_elem (own_eqI nl13 rfl) ev_r2_c Ar_r2_c
  have Sz_r3_c : cl_r3_c.slots.size = (0 : Int32).toNatClampNeg := own_len (own_eqI nl16 rfl) ev_r3_c Ar_r3_c
  have Sz_r4_c : cl_r4_c.slots.size = (0 : Int32).toNatClampNeg := own_len (own_eqI nl19 rfl) ev_r4_c Ar_r4_c
  have Sz_r5_c : cl_r5_c.slots.size = (0 : Int32).toNatClampNeg := own_len (own_eqI nl22 rfl) ev_r5_c Ar_r5_c
  have Sz_r6_c : cl_r6_c.slots.size = (0 : Int32).toNatClampNeg := own_len (own_eqI nl25 rfl) ev_r6_c Ar_r6_c
  have Sz_r7_c : cl_r7_c.slots.size = (0 : Int32).toNatClampNeg := own_len (own_eqI nl28 rfl) ev_r7_c Ar_r7_c
  have Sz_r8_c : cl_r8_c.slots.size = (0 : Int32).toNatClampNeg := own_len (own_eqI nr30 rfl) ev_r8_c Ar_r8_c
  have F : own_W s s.heap r0 r1 r2 r3 r4 r5 r6 r7 r8 r0_c cl_r0_c r1_c cl_r1_c r2_c cl_r2_c r3_c cl_r3_c r4_c cl_r4_c r5_c cl_r5_c r6_c cl_r6_c r7_c cl_r7_c r8_c cl_r8_c := ⟨S_r0, E_r0, S_r1, E_r1, S_r2, E_r2, S_r3, E_r3, S_r4, E_r4, S_r5, E_r5, S_r6, E_r6, S_r7, E_r7, S_r8, E_r8, F_r0_counts, Ar_r0_c, F_r1_counts, Ar_r1_c, F_r2_counts, Ar_r2_c, F_r3_counts, Ar_r3_c, F_r4_counts, Ar_r4_c, F_r5_counts, Ar_r5_c, F_r6_counts, Ar_r6_c, F_r7_counts, Ar_r7_c, F_r8_counts, Ar_r8_c, Sz_r0_c, El_r0_c_0, Sz_r1_c, El_r1_c_0, El_r1_c_1, Sz_r2_c, El_r2_c_0, Sz_r3_c, Sz_r4_c, Sz_r5_c, Sz_r6_c, Sz_r7_c, Sz_r8_c⟩
  obtain ⟨n, o, h1, h2, h3, _, L, rfl, ⟨rfl, N, -⟩, hq⟩ := own_r0 l s _ hw tables_1 r0 r1 r2 r3 r4 r5 r6 r7 r8 r0_c cl_r0_c r1_c cl_r1_c r2_c cl_r2_c r3_c cl_r3_c r4_c cl_r4_c r5_c cl_r5_c r6_c cl_r6_c r7_c cl_r7_c r8_c cl_r8_c s.heap s.heap.size (Nat.le_refl _) F i0 i1 i2 p e ha hc hk s m _ below hf ((Spec.applies_iff_loose hf).mp happ).1 ⟨rfl, State.Warmed39.refl s, rfl⟩ trivial
  refine ⟨n, _, h1, h2, h3, hpost _ _ _ _ _ _ ⟨Cond.after_iff.mpr rfl, Cond.after_iff.mpr (eq_i res_at (Term.int_eval (1)) rfl), trivial⟩ ⟨hq.1, hq.2.1, (hq.2.2.sift fun y hy => Or.inr (N y hy)).mono (by decide) (by decide)⟩⟩
theorem main_1_1 : Claimed_1_1 := own_comes fun _ _ _ _ _ _ h hF => ⟨h.1, hF⟩
theorem main_1_2 : Claimed_1_2 := own_comes fun _ _ _ _ _ _ h hF => ⟨h.2.1, hF⟩
end Jvm.Pilot.@@N@@
namespace Jvm.Pilot.@@N@@
open Jvm Jvm.ClassFile Sem Op Lib Jvm.Free Jvm.Stand Jvm.Pilot.@@N@@.Jvm.D
/-! MADE BY PROGRAM (witnessworld.py) out of the Statement's table words and the real class files: 12 classes; the members and pool entries that the words name. The judged class is class 1, her method 3. -/
namespace start1
open Jvm.ClassFile
def u (s : String) : CpInfo := .utf8 (stringToUtf16 s)
/-- a pool by its gaps: so many unusable entries, then the entry; so many at the end -/
def gap : Nat → List CpInfo → List CpInfo
  | 0, r => r
  | n + 1, r => .unusable :: gap n r
def poolList (es : List (Nat × CpInfo)) (last : Nat) : List CpInfo := es.foldr (fun e r => gap e.1 (e.2 :: r)) (gap last [])
def pool (es : List (Nat × CpInfo)) (last : Nat) : Array CpInfo := ⟨poolList es last⟩
def fileOf (pool : Array CpInfo) (this : Nat) (attrs : Array Attribute := #[]) (ms : Array MethodInfo := #[]) (fl : Nat := 33) (sup : Nat := 0) (ifs : Array Nat := #[]) (fds : Array FieldInfo := #[]) : ClassFile where
  minorVersion := 0
  majorVersion := 65
  constantPool := pool
  accessFlags := fl
  thisClass := this
  superClass := sup
  interfaces := ifs
  fields := fds
  methods := ms
  attributes := attrs
def plain (name : String) (sup : Option ClassId) : Class where
  name := name
  kind := .ordinary
  loader := none
  accessFlags := 33
  super := sup
  interfaces := #[]
  cf := none
  fields := #[]
  methods := #[]
  instanceTypes := #[]
  staticTypes := #[]
  resolved := #[]
  callSites := []
  init := .initialized
  statics := none
  mirror := none

def pool0 : Array CpInfo := pool [(5, u "<init>"), (0, u "()V"), (1, .class_ 10), (1, u "java/lang/Object")] 113

def k0m0 : Method := { name := "<init>", desc := "()V", sig := { parameters := [], returnType := none }, accessFlags := 1, code := none }
/-- java/lang/Object -/
def k0 : Class := { plain "java/lang/Object" none with
  accessFlags := 33
  interfaces := #[]
  cf := some (fileOf pool0 8 #[] #[{ accessFlags := 1, nameIndex := 5, descriptorIndex := 6, attributes := #[] }] 33 0 #[] #[])
  fields := #[]
  methods := #[k0m0]
  instanceTypes := #[]
  staticTypes := #[]
  resolved := Array.replicate 124 none
  statics := none }

def pool1 : Array CpInfo := pool [(2, .class_ 4), (1, u "java/lang/Object"), (0, u "<init>"), (0, u "()V"), (0, .fieldref 8 9), (0, .class_ 10), (0, .nameAndType 11 12), (0, u "com/example/urbana/urbana/protocol/Command"), (0, u "FLUSH_UNOWNED"), (0, u "Lcom/example/urbana/urbana/protocol/Command;"), (0, .fieldref 8 14), (0, .nameAndType 15 12), (0, u "DIGEST"), (0, .fieldref 8 17), (0, .nameAndType 18 12), (0, u "UNIQUES"), (0, .fieldref 8 20), (0, .nameAndType 21 12), (0, u "GET"), (0, .fieldref 8 23), (0, .nameAndType 24 12), (0, u "SET"), (0, .fieldref 8 26), (0, .nameAndType 27 12), (0, u "CAS"), (0, .fieldref 8 29), (0, .nameAndType 30 12), (0, u "STATS"), (0, .fieldref 8 32), (0, .nameAndType 33 12), (0, u "MG"), (0, .fieldref 8 35), (0, .nameAndType 36 12), (0, u "INVALID"), (0, .integer 2147483647), (0, .methodref 39 40), (0, .class_ 41), (0, .nameAndType 42 43), (0, u "com/example/urbana/urbana/protocol/CommandTakesPinLaw"), (0, u "pick"), (0, u "(I)Lcom/example/urbana/urbana/protocol/Command;"), (0, .methodref 8 45), (0, .nameAndType 46 47), (0, u "takes"), (0, u "(I)Z"), (0, .methodref 39 49), (0, .nameAndType 50 51), (0, u "expected"), (0, u "(II)Z"), (3, u "law"), (0, u "(III)Z")] 2

def k1m0 : Method := { name := "<init>", desc := "()V", sig := { parameters := [], returnType := none }, accessFlags := 1, code := none }
def k1c1 : Code := { maxStack := 2, maxLocals := 1, code := method_2_code, exceptionTable := #[], attributes := #[] }
def k1m1 : Method := { name := "pick", desc := "(I)Lcom/example/urbana/urbana/protocol/Command;", sig := { parameters := [.int], returnType := some (.object "com/example/urbana/urbana/protocol/Command") }, accessFlags := 10, code := some k1c1 }
def k1c2 : Code := { maxStack := 2, maxLocals := 2, code := method_3_code, exceptionTable := #[], attributes := #[] }
def k1m2 : Method := { name := "expected", desc := "(II)Z", sig := { parameters := [.int, .int], returnType := some .boolean }, accessFlags := 10, code := some k1c2 }
def k1c3 : Code := { maxStack := 3, maxLocals := 6, code := code, exceptionTable := #[], attributes := #[] }
def k1m3 : Method := { name := "law", desc := "(III)Z", sig := { parameters := [.int, .int, .int], returnType := some .boolean }, accessFlags := 9, code := some k1c3 }
/-- com/example/urbana/urbana/protocol/CommandTakesPinLaw -/
def k1 : Class := { plain "com/example/urbana/urbana/protocol/CommandTakesPinLaw" (some 0) with
  accessFlags := 49
  interfaces := #[]
  cf := some (fileOf pool1 39 #[] #[{ accessFlags := 1, nameIndex := 5, descriptorIndex := 6, attributes := #[] }, { accessFlags := 10, nameIndex := 42, descriptorIndex := 43, attributes := #[] }, { accessFlags := 10, nameIndex := 50, descriptorIndex := 51, attributes := #[] }, { accessFlags := 9, nameIndex := 55, descriptorIndex := 56, attributes := #[] }] 49 2 #[] #[])
  fields := #[]
  methods := #[k1m0, k1m1, k1m2, k1m3]
  instanceTypes := #[]
  staticTypes := #[]
  resolved := Array.replicate 59 none
  statics := none }

def pool2 : Array CpInfo := pool [(1, .class_ 2), (0, u "java/lang/constant/Constable"), (0, .class_ 4), (0, u "java/lang/Object")] 6

/-- java/lang/constant/Constable -/
def k2 : Class := { plain "java/lang/constant/Constable" (some 0) with
  accessFlags := 1537
  interfaces := #[]
  cf := some (fileOf pool2 1 #[] #[] 1537 3 #[] #[])
  fields := #[]
  methods := #[]
  instanceTypes := #[]
  staticTypes := #[]
  resolved := Array.replicate 11 none
  statics := none }

def pool3 : Array CpInfo := pool [(1, .class_ 2), (0, u "java/lang/Comparable"), (0, .class_ 4), (0, u "java/lang/Object")] 7

/-- java/lang/Comparable -/
def k3 : Class := { plain "java/lang/Comparable" (some 0) with
  accessFlags := 1537
  interfaces := #[]
  cf := some (fileOf pool3 1 #[] #[] 1537 3 #[] #[])
  fields := #[]
  methods := #[]
  instanceTypes := #[]
  staticTypes := #[]
  resolved := Array.replicate 12 none
  statics := none }

def pool4 : Array CpInfo := pool [(1, .class_ 2), (0, u "java/io/Serializable"), (0, .class_ 4), (0, u "java/lang/Object")] 2

/-- java/io/Serializable -/
def k4 : Class := { plain "java/io/Serializable" (some 0) with
  accessFlags := 1537
  interfaces := #[]
  cf := some (fileOf pool4 1 #[] #[] 1537 3 #[] #[])
  fields := #[]
  methods := #[]
  instanceTypes := #[]
  staticTypes := #[]
  resolved := Array.replicate 7 none
  statics := none }

def pool5 : Array CpInfo := pool [(2, .class_ 4), (1, u "java/lang/Enum"), (0, u "name"), (0, u "Ljava/lang/String;"), (2, u "ordinal"), (0, u "I"), (1, .class_ 14), (1, u "java/lang/Object"), (4, u "hash"), (86, .class_ 108), (1, u "java/lang/Enum$EnumDesc"), (2, .class_ 112), (0, u "java/lang/constant/Constable"), (0, .class_ 114), (0, u "java/lang/Comparable"), (0, .class_ 116), (0, u "java/io/Serializable")] 87

/-- java/lang/Enum -/
def k5 : Class := { plain "java/lang/Enum" (some 0) with
  accessFlags := 1057
  interfaces := #[2, 3, 4]
  cf := some (fileOf pool5 2 #[.nestMembers #[106]] #[] 1057 12 #[111, 113, 115] #[{ accessFlags := 18, nameIndex := 5, descriptorIndex := 6, attributes := #[] }, { accessFlags := 18, nameIndex := 9, descriptorIndex := 10, attributes := #[] }, { accessFlags := 2, nameIndex := 19, descriptorIndex := 10, attributes := #[] }])
  fields := #[{ name := "name", type := (.object "java/lang/String"), accessFlags := 18, slot := 0, constantValue := 0 }, { name := "ordinal", type := .int, accessFlags := 18, slot := 1, constantValue := 0 }, { name := "hash", type := .int, accessFlags := 2, slot := 2, constantValue := 0 }]
  methods := #[]
  instanceTypes := #[(.object "java/lang/String"), .int, .int]
  staticTypes := #[]
  resolved := Array.replicate 204 none
  statics := none }

def pool6 : Array CpInfo := pool [(1, .class_ 2), (0, u "com/example/urbana/urbana/protocol/Command"), (2, u "GET"), (0, u "Lcom/example/urbana/urbana/protocol/Command;"), (2, u "GETS"), (2, u "GAT"), (2, u "GATS"), (2, u "SET"), (2, u "ADD"), (2, u "REPLACE"), (2, u "APPEND"), (2, u "PREPEND"), (2, u "CAS"), (2, u "DELETE"), (2, u "TOUCH"), (2, u "INCR"), (2, u "DECR"), (2, u "VERSION"), (2, u "QUIT"), (2, u "STATS"), (2, u "FLUSH_ALL"), (2, u "VERBOSITY"), (2, u "FLUSH_UNOWNED"), (2, u "COPY"), (2, u "FENCE"), (2, u "DIGEST"), (2, u "UNIQUES"), (2, u "MG"), (2, u "INVALID"), (2, u "$VALUES"), (0, u "[Lcom/example/urbana/urbana/protocol/Command;"), (6, .class_ 94), (1, u "java/lang/Enum"), (20, u "name"), (0, u "[B"), (2, u "form"), (0, u "Lcom/example/urbana/urbana/protocol/Command$Form;"), (0, .fieldref 1 122), (0, .nameAndType 123 124), (0, u "counts"), (0, u "[I"), (2, u "NAMED"), (10, .class_ 140), (1, u "com/example/urbana/urbana/protocol/Command$Form"), (162, u "takes"), (0, u "(I)Z")] 37

def k6c0 : Code := { maxStack := 3, maxLocals := 7, code := prog_2_method_8_code, exceptionTable := #[], attributes := #[] }
def k6m0 : Method := { name := "takes", desc := "(I)Z", sig := { parameters := [.int], returnType := some .boolean }, accessFlags := 0, code := some k6c0 }
/-- com/example/urbana/urbana/protocol/Command -/
def k6 : Class := { plain "com/example/urbana/urbana/protocol/Command" (some 5) with
  accessFlags := 16433
  interfaces := #[]
  cf := some (fileOf pool6 1 #[.nestMembers #[138]] #[{ accessFlags := 0, nameIndex := 303, descriptorIndex := 304, attributes := #[] }] 16433 92 #[] #[{ accessFlags := 16409, nameIndex := 5, descriptorIndex := 6, attributes := #[] }, { accessFlags := 16409, nameIndex := 9, descriptorIndex := 6, attributes := #[] }, { accessFlags := 16409, nameIndex := 12, descriptorIndex := 6, attributes := #[] }, { accessFlags := 16409, nameIndex := 15, descriptorIndex := 6, attributes := #[] }, { accessFlags := 16409, nameIndex := 18, descriptorIndex := 6, attributes := #[] }, { accessFlags := 16409, nameIndex := 21, descriptorIndex := 6, attributes := #[] }, { accessFlags := 16409, nameIndex := 24, descriptorIndex := 6, attributes := #[] }, { accessFlags := 16409, nameIndex := 27, descriptorIndex := 6, attributes := #[] }, { accessFlags := 16409, nameIndex := 30, descriptorIndex := 6, attributes := #[] }, { accessFlags := 16409, nameIndex := 33, descriptorIndex := 6, attributes := #[] }, { accessFlags := 16409, nameIndex := 36, descriptorIndex := 6, attributes := #[] }, { accessFlags := 16409, nameIndex := 39, descriptorIndex := 6, attributes := #[] }, { accessFlags := 16409, nameIndex := 42, descriptorIndex := 6, attributes := #[] }, { accessFlags := 16409, nameIndex := 45, descriptorIndex := 6, attributes := #[] }, { accessFlags := 16409, nameIndex := 48, descriptorIndex := 6, attributes := #[] }, { accessFlags := 16409, nameIndex := 51, descriptorIndex := 6, attributes := #[] }, { accessFlags := 16409, nameIndex := 54, descriptorIndex := 6, attributes := #[] }, { accessFlags := 16409, nameIndex := 57, descriptorIndex := 6, attributes := #[] }, { accessFlags := 16409, nameIndex := 60, descriptorIndex := 6, attributes := #[] }, { accessFlags := 16409, nameIndex := 63, descriptorIndex := 6, attributes := #[] }, { accessFlags := 16409, nameIndex := 66, descriptorIndex := 6, attributes := #[] }, { accessFlags := 16409, nameIndex := 69, descriptorIndex := 6, attributes := #[] }, { accessFlags := 16409, nameIndex := 72, descriptorIndex := 6, attributes := #[] }, { accessFlags := 16409, nameIndex := 75, descriptorIndex := 6, attributes := #[] }, { accessFlags := 16409, nameIndex := 78, descriptorIndex := 6, attributes := #[] }, { accessFlags := 16409, nameIndex := 81, descriptorIndex := 6, attributes := #[] }, { accessFlags := 26, nameIndex := 127, descriptorIndex := 85, attributes := #[] }, { accessFlags := 18, nameIndex := 115, descriptorIndex := 116, attributes := #[] }, { accessFlags := 18, nameIndex := 119, descriptorIndex := 120, attributes := #[] }, { accessFlags := 18, nameIndex := 123, descriptorIndex := 124, attributes := #[] }, { accessFlags := 4122, nameIndex := 84, descriptorIndex := 85, attributes := #[] }])
  fields := #[{ name := "GET", type := (.object "com/example/urbana/urbana/protocol/Command"), accessFlags := 16409, slot := 0, constantValue := 0 }, { name := "GETS", type := (.object "com/example/urbana/urbana/protocol/Command"), accessFlags := 16409, slot := 1, constantValue := 0 }, { name := "GAT", type := (.object "com/example/urbana/urbana/protocol/Command"), accessFlags := 16409, slot := 2, constantValue := 0 }, { name := "GATS", type := (.object "com/example/urbana/urbana/protocol/Command"), accessFlags := 16409, slot := 3, constantValue := 0 }, { name := "SET", type := (.object "com/example/urbana/urbana/protocol/Command"), accessFlags := 16409, slot := 4, constantValue := 0 }, { name := "ADD", type := (.object "com/example/urbana/urbana/protocol/Command"), accessFlags := 16409, slot := 5, constantValue := 0 }, { name := "REPLACE", type := (.object "com/example/urbana/urbana/protocol/Command"), accessFlags := 16409, slot := 6, constantValue := 0 }, { name := "APPEND", type := (.object "com/example/urbana/urbana/protocol/Command"), accessFlags := 16409, slot := 7, constantValue := 0 }, { name := "PREPEND", type := (.object "com/example/urbana/urbana/protocol/Command"), accessFlags := 16409, slot := 8, constantValue := 0 }, { name := "CAS", type := (.object "com/example/urbana/urbana/protocol/Command"), accessFlags := 16409, slot := 9, constantValue := 0 }, { name := "DELETE", type := (.object "com/example/urbana/urbana/protocol/Command"), accessFlags := 16409, slot := 10, constantValue := 0 }, { name := "TOUCH", type := (.object "com/example/urbana/urbana/protocol/Command"), accessFlags := 16409, slot := 11, constantValue := 0 }, { name := "INCR", type := (.object "com/example/urbana/urbana/protocol/Command"), accessFlags := 16409, slot := 12, constantValue := 0 }, { name := "DECR", type := (.object "com/example/urbana/urbana/protocol/Command"), accessFlags := 16409, slot := 13, constantValue := 0 }, { name := "VERSION", type := (.object "com/example/urbana/urbana/protocol/Command"), accessFlags := 16409, slot := 14, constantValue := 0 }, { name := "QUIT", type := (.object "com/example/urbana/urbana/protocol/Command"), accessFlags := 16409, slot := 15, constantValue := 0 }, { name := "STATS", type := (.object "com/example/urbana/urbana/protocol/Command"), accessFlags := 16409, slot := 16, constantValue := 0 }, { name := "FLUSH_ALL", type := (.object "com/example/urbana/urbana/protocol/Command"), accessFlags := 16409, slot := 17, constantValue := 0 }, { name := "VERBOSITY", type := (.object "com/example/urbana/urbana/protocol/Command"), accessFlags := 16409, slot := 18, constantValue := 0 }, { name := "FLUSH_UNOWNED", type := (.object "com/example/urbana/urbana/protocol/Command"), accessFlags := 16409, slot := 19, constantValue := 0 }, { name := "COPY", type := (.object "com/example/urbana/urbana/protocol/Command"), accessFlags := 16409, slot := 20, constantValue := 0 }, { name := "FENCE", type := (.object "com/example/urbana/urbana/protocol/Command"), accessFlags := 16409, slot := 21, constantValue := 0 }, { name := "DIGEST", type := (.object "com/example/urbana/urbana/protocol/Command"), accessFlags := 16409, slot := 22, constantValue := 0 }, { name := "UNIQUES", type := (.object "com/example/urbana/urbana/protocol/Command"), accessFlags := 16409, slot := 23, constantValue := 0 }, { name := "MG", type := (.object "com/example/urbana/urbana/protocol/Command"), accessFlags := 16409, slot := 24, constantValue := 0 }, { name := "INVALID", type := (.object "com/example/urbana/urbana/protocol/Command"), accessFlags := 16409, slot := 25, constantValue := 0 }, { name := "NAMED", type := (.array (.object "com/example/urbana/urbana/protocol/Command")), accessFlags := 26, slot := 26, constantValue := 0 }, { name := "name", type := (.array .byte), accessFlags := 18, slot := 3, constantValue := 0 }, { name := "form", type := (.object "com/example/urbana/urbana/protocol/Command$Form"), accessFlags := 18, slot := 4, constantValue := 0 }, { name := "counts", type := (.array .int), accessFlags := 18, slot := 5, constantValue := 0 }, { name := "$VALUES", type := (.array (.object "com/example/urbana/urbana/protocol/Command")), accessFlags := 4122, slot := 27, constantValue := 0 }]
  methods := #[k6m0]
  instanceTypes := #[(.object "java/lang/String"), .int, .int, (.array .byte), (.object "com/example/urbana/urbana/protocol/Command$Form"), (.array .int)]
  staticTypes := #[(.object "com/example/urbana/urbana/protocol/Command"), (.object "com/example/urbana/urbana/protocol/Command"), (.object "com/example/urbana/urbana/protocol/Command"), (.object "com/example/urbana/urbana/protocol/Command"), (.object "com/example/urbana/urbana/protocol/Command"), (.object "com/example/urbana/urbana/protocol/Command"), (.object "com/example/urbana/urbana/protocol/Command"), (.object "com/example/urbana/urbana/protocol/Command"), (.object "com/example/urbana/urbana/protocol/Command"), (.object "com/example/urbana/urbana/protocol/Command"), (.object "com/example/urbana/urbana/protocol/Command"), (.object "com/example/urbana/urbana/protocol/Command"), (.object "com/example/urbana/urbana/protocol/Command"), (.object "com/example/urbana/urbana/protocol/Command"), (.object "com/example/urbana/urbana/protocol/Command"), (.object "com/example/urbana/urbana/protocol/Command"), (.object "com/example/urbana/urbana/protocol/Command"), (.object "com/example/urbana/urbana/protocol/Command"), (.object "com/example/urbana/urbana/protocol/Command"), (.object "com/example/urbana/urbana/protocol/Command"), (.object "com/example/urbana/urbana/protocol/Command"), (.object "com/example/urbana/urbana/protocol/Command"), (.object "com/example/urbana/urbana/protocol/Command"), (.object "com/example/urbana/urbana/protocol/Command"), (.object "com/example/urbana/urbana/protocol/Command"), (.object "com/example/urbana/urbana/protocol/Command"), (.array (.object "com/example/urbana/urbana/protocol/Command")), (.array (.object "com/example/urbana/urbana/protocol/Command"))]
  resolved := Array.replicate 342 none
  statics := some 0 }

def pool7 : Array CpInfo := pool [(1, u "java/lang/Cloneable"), (0, .class_ 1), (0, u "java/lang/Object"), (0, .class_ 3)] 3

/-- java/lang/Cloneable -/
def k7 : Class := { plain "java/lang/Cloneable" (some 0) with
  accessFlags := 1537
  interfaces := #[]
  cf := some (fileOf pool7 2 #[] #[] 1537 4 #[] #[])
  fields := #[]
  methods := #[]
  instanceTypes := #[]
  staticTypes := #[]
  resolved := Array.replicate 8 none
  statics := none }

/-- the primitive byte -/
def k8 : Class := { plain "byte" none with kind := .primitive 'B', accessFlags := 0x411 }
/-- [B -/
def k9 : Class := { plain "[B" (some 0) with kind := .array 8 .byte, interfaces := #[7, 4], accessFlags := 1041 }

/-- the primitive int -/
def k10 : Class := { plain "int" none with kind := .primitive 'I', accessFlags := 0x411 }
/-- [I -/
def k11 : Class := { plain "[I" (some 0) with kind := .array 10 .int, interfaces := #[7, 4], accessFlags := 1041 }

def heap : Heap := #[{ cls := 6, slots := #[.ref 8, .null, .null, .null, .ref 10, .null, .null, .null, .null, .ref 12, .null, .null, .null, .null, .null, .null, .ref 14, .null, .null, .ref 2, .null, .null, .ref 4, .ref 6, .ref 16, .ref 18, .null, .null], vm := .statics 6 },
  { cls := 11, slots := #[.int 3], vm := .none },
  { cls := 6, slots := #[.null, .int 0, .int 0, .null, .null, .ref 1], vm := .none },
  { cls := 11, slots := #[.int 0, .int 3], vm := .none },
  { cls := 6, slots := #[.null, .int 0, .int 0, .null, .null, .ref 3], vm := .none },
  { cls := 11, slots := #[.int 1], vm := .none },
  { cls := 6, slots := #[.null, .int 0, .int 0, .null, .null, .ref 5], vm := .none },
  { cls := 11, slots := #[], vm := .none },
  { cls := 6, slots := #[.null, .int 0, .int 0, .null, .null, .ref 7], vm := .none },
  { cls := 11, slots := #[], vm := .none },
  { cls := 6, slots := #[.null, .int 0, .int 0, .null, .null, .ref 9], vm := .none },
  { cls := 11, slots := #[], vm := .none },
  { cls := 6, slots := #[.null, .int 0, .int 0, .null, .null, .ref 11], vm := .none },
  { cls := 11, slots := #[], vm := .none },
  { cls := 6, slots := #[.null, .int 0, .int 0, .null, .null, .ref 13], vm := .none },
  { cls := 11, slots := #[], vm := .none },
  { cls := 6, slots := #[.null, .int 0, .int 0, .null, .null, .ref 15], vm := .none },
  { cls := 11, slots := #[], vm := .none },
  { cls := 6, slots := #[.null, .int 0, .int 0, .null, .null, .ref 17], vm := .none }]
def classes : Array Class := #[k0, k1, k2, k3, k4, k5, k6, k7, k8, k9, k10, k11]
def interned : List (Array UInt16 × Addr) := []
def slotsUsed : Nat := 86
def theMethod : MethodId := ⟨1, 3⟩
def args0 : Array Value := #[.int 3, .int 4, .int 5]
def aboutOver (below : List Frame) : State where
  vm := { classes := classes, interned := interned.toArray }
  heap := heap
  slotsUsed := slotsUsed
  threads := #[{ frames := .invoking theMethod args0 :: below }]
def below0 : List Frame := [.native { method := ⟨0, 0⟩, args := #[] }]
def about1 : State := aboutOver below0
def p0 : Program := .bare "" "" ""
def e0 : Env := launch0.env 0 0 0
theorem w_frames : about1.frames = Frame.invoking theMethod args0 :: below0 := rfl
set_option maxRecDepth 65536 in
theorem w_args : argsFit about1.vm theMethod args0 = true := by decide +kernel
set_option maxRecDepth 65536 in
theorem w_heap : heapFits about1 = true := by decide +kernel
set_option maxRecDepth 65536 in
theorem w_runnable : about1.curStatus? = some .runnable := by decide +kernel
set_option maxRecDepth 65536 in
theorem w_alone : about1.alone = true := by decide +kernel
set_option maxRecDepth 65536 in
theorem w_named : about1.methodNamed? x = some theMethod := by decide +kernel
set_option maxRecDepth 65536 in
theorem w_hears : about1.hears theMethod below0 = true := by decide +kernel
set_option maxRecDepth 65536 in
theorem w_ripe : about1.ripe theMethod args0 below0 = true := by decide +kernel
theorem w_running : about1.status = .running := rfl
set_option maxRecDepth 65536 in
theorem w_room : about1.hasRoom e0.platform room_1 = true :=
  launch0.hasRoom_least _ room_1 (by decide +kernel) (by decide +kernel) (by decide +kernel) (by decide +kernel) (by decide +kernel) (by decide +kernel)
theorem allAtoms_all (ts : List Jvm.Cond) (a : Array Jvm.Value) (st : Jvm.State) : (allAtoms ts).before a st = ts.all (fun c => c.before a st) := by
  induction ts with
  | nil => rfl
  | cons c t ih =>
    show (Jvm.Cond.and c (allAtoms t)).before a st = _
    rw [Jvm.Cond.before_and, ih, List.all_cons]
def words1 : List Jvm.Cond := Jvm.Cond.code x code maxLocals ret :: tables_1
/-- a 'code' word, met by the world's own term for the bytes: nothing is compared byte by byte -/
theorem code_word {y : MethodName} {bytes : ByteArray} {mx : Nat} {rt : Option FieldType} {a : Array Value} {s : State} {m : MethodId} {meth : Method} {c : Code} (h1 : s.methodNamed? y = some m) (h2 : s.vm.method? m = some meth) (h3 : meth.code = some c) (h4 : c.code = bytes)
    (h5 : (c.maxLocals == mx && c.exceptionTable.isEmpty && decide (c.maxStack ≤ mostOperands) && decide (meth.sig.returnType = rt) && !meth.locks && decide (parseMethodDescriptor y.desc = some meth.sig)) = true) : (Jvm.Cond.code y bytes mx rt).before a s = true := by
  simp only [Bool.and_eq_true, beq_iff_eq, Bool.not_eq_true', decide_eq_true_eq] at h5
  obtain ⟨⟨⟨⟨⟨g1, g2⟩, g3⟩, g4⟩, g5⟩, g6⟩ := h5
  simp [Cond.before, Cond.holds, Cond.value, h1, h2, h3, h4, g1, g2, g3, g4, g5, g6]
def isCode : Jvm.Cond → Bool
  | .code _ _ _ _ => true
  | _ => false
theorem all_split {L : List Jvm.Cond} {P : Jvm.Cond → Bool} (h1 : L.all (fun c => isCode c || P c) = true) (h2 : ∀ c ∈ L.filter isCode, P c = true) : L.all P = true := by
  refine List.all_eq_true.mpr fun c hc => ?_
  have h := List.all_eq_true.mp h1 c hc
  rcases Bool.eq_false_or_eq_true (isCode c) with hi | hi
  · exact h2 c (List.mem_filter.mpr ⟨hc, hi⟩)
  · simpa [hi] using h
set_option maxRecDepth 65536 in
theorem w_c0 : (Jvm.Cond.code x code maxLocals ret).before args0 about1 = true := code_word (m := ⟨1, 3⟩) (meth := k1m3) (c := k1c3) (by decide +kernel) rfl rfl rfl (by decide +kernel)
set_option maxRecDepth 65536 in
theorem w_c1 : (Jvm.Cond.code ({ cls := "com/example/urbana/urbana/protocol/CommandTakesPinLaw", name := "pick", desc := "(I)Lcom/example/urbana/urbana/protocol/Command;" } : Jvm.MethodName) method_2_code (1 : Nat) (Option.some (Jvm.ClassFile.FieldType.object "com/example/urbana/urbana/protocol/Command"))).before args0 about1 = true := code_word (m := ⟨1, 1⟩) (meth := k1m1) (c := k1c1) (by decide +kernel) rfl rfl rfl (by decide +kernel)
set_option maxRecDepth 65536 in
theorem w_c2 : (Jvm.Cond.code ({ cls := "com/example/urbana/urbana/protocol/Command", name := "takes", desc := "(I)Z" } : Jvm.MethodName) prog_2_method_8_code (7 : Nat) (Option.some Jvm.ClassFile.FieldType.boolean)).before args0 about1 = true := code_word (m := ⟨6, 0⟩) (meth := k6m0) (c := k6c0) (by decide +kernel) rfl rfl rfl (by decide +kernel)
set_option maxRecDepth 65536 in
theorem w_c3 : (Jvm.Cond.code ({ cls := "com/example/urbana/urbana/protocol/CommandTakesPinLaw", name := "expected", desc := "(II)Z" } : Jvm.MethodName) method_3_code (2 : Nat) (Option.some Jvm.ClassFile.FieldType.boolean)).before args0 about1 = true := code_word (m := ⟨1, 2⟩) (meth := k1m2) (c := k1c2) (by decide +kernel) rfl rfl rfl (by decide +kernel)
def codes1 : List Jvm.Cond := [Jvm.Cond.code x code maxLocals ret, Jvm.Cond.code ({ cls := "com/example/urbana/urbana/protocol/CommandTakesPinLaw", name := "pick", desc := "(I)Lcom/example/urbana/urbana/protocol/Command;" } : Jvm.MethodName) method_2_code (1 : Nat) (Option.some (Jvm.ClassFile.FieldType.object "com/example/urbana/urbana/protocol/Command")), Jvm.Cond.code ({ cls := "com/example/urbana/urbana/protocol/Command", name := "takes", desc := "(I)Z" } : Jvm.MethodName) prog_2_method_8_code (7 : Nat) (Option.some Jvm.ClassFile.FieldType.boolean), Jvm.Cond.code ({ cls := "com/example/urbana/urbana/protocol/CommandTakesPinLaw", name := "expected", desc := "(II)Z" } : Jvm.MethodName) method_3_code (2 : Nat) (Option.some Jvm.ClassFile.FieldType.boolean)]
set_option maxRecDepth 65536 in
theorem codes_eq : words1.filter isCode = codes1 := rfl
theorem w_codes : ∀ c ∈ words1.filter isCode, c.before args0 about1 = true := by
  rw [codes_eq]
  intro c hc
  simp only [codes1, List.mem_cons, List.not_mem_nil, or_false] at hc
  rcases hc with rfl | rfl | rfl | rfl
  · exact w_c0
  · exact w_c1
  · exact w_c2
  · exact w_c3
set_option maxRecDepth 65536 in
theorem w_t1 : (words1.take 24).all (fun c => isCode c || c.before args0 about1) = true := by decide +kernel
set_option maxRecDepth 65536 in
theorem w_t2 : (words1.drop 24).all (fun c => isCode c || c.before args0 about1) = true := by decide +kernel
theorem w_tables : (allAtoms (Jvm.Cond.code x code maxLocals ret :: tables_1)).before args0 about1 = true := by
  rw [allAtoms_all]
  show words1.all (fun c => c.before args0 about1) = true
  refine all_split ?_ w_codes
  rw [← List.take_append_drop 24 words1, List.all_append, w_t1, w_t2]
  rfl
set_option maxRecDepth 65536 in
theorem w_case : (Jvm.Cond.and given_1 narrow_1).before args0 about1 = true := by decide +kernel
theorem w_applies : (headSpec (Jvm.Cond.code x code maxLocals ret :: tables_1) room_1).applies x e0.platform about1 = true :=
  (Spec.applies_iff w_frames).mpr ⟨w_running, w_runnable, w_alone, w_named, w_hears, w_ripe, w_room, w_tables⟩
theorem atStart : AtStart classFile x code maxLocals ret World_1 tables_1 room_1 Calls_1 rest_1 Pre_1 launch0 p0 e0 about1 theMethod args0 below0 :=
  ⟨lists_1, trivial, launch0.admits_env _ _ _, launch0.least_env, fairChoices_fair.cas, fairChoices_fair.clock, w_frames, w_args, w_heap, w_applies, trivial, trivial, w_case⟩
end start1
theorem witness_1 : WitnessClaimed_1 := ⟨start1.p0, start1.e0, start1.about1, start1.theMethod, start1.args0, start1.below0, start1.atStart⟩
end Jvm.Pilot.@@N@@
