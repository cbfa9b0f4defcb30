import JvmDerived
import JvmDerived.Pilot.@@N@@Statement
import JvmDerived.Pilot.@@N@@Code
set_option linter.unusedVariables false
set_option linter.unusedSimpArgs false
@@BLOCK:NumsL.lean.txt@@
namespace Jvm.RoadKit
open Sem ClassFile Op Lib Jvm.Stand Jvm.Free Jvm.LawKit
section New
variable {p : Program} {l : Launch} {e : Env} {R : Room} {s : State} {m : MethodId} {args : Array Value} {below : List Frame} {meth : Method} {c : Code} {T : State} {locs : List Loc} {cells slots : Nat}
theorem retI (X : Stand p l e R s m args below meth c T locs cells slots) (hx : p.tables.exec = Jvm.exec) {pc : Nat} {Ls : Array Slot} {z : Int32} {rest : List Value} (hret : meth.sig.returnType = some .int) (hd : decode c.code pc = .ok (.ireturn, 1)) {fs : List Frame}
    (hl : ∀ (f : JFrame) (acts : List Action), f.method = m → f.locked = none → f.entered = [] → (doReturn e (T.setTop f) acts (some (.int z))).1 = T.setFrames fs) : Steps p.tables e below (T.setTop (mkF m pc Ls (.int z :: rest))) (T.setFrames fs) := by
  have hm' : T.vm.method? m = some meth := X.method'
  have hn : narrow .int (.int z) = .int z := rfl
  show Steps p.tables e below (T.setTop { method := m, pc := pc, locals := Ls, stack := _ :: rest, locked := none }) _
  jvm_step X.here [X.here.top, hx, hd, hm', hret, hn]
  first | (intro acts; rw [hl _ acts rfl rfl rfl]) | rw [hl _ _ rfl rfl rfl]
  exact Steps.refl _
end New
end Jvm.RoadKit
namespace Jvm.Pilot.@@N@@
open Jvm Jvm.ClassFile Sem Op Lib Jvm.Free Jvm.Stand Jvm.LawKit Jvm.RoadKit Bundle Jvm.Pilot.@@N@@.Jvm.D
def OwnQ (r : Option Value) (h0 : Heap) (n0 : Nat) (v : Option Value) (h : Heap) (L : List Loc) : Prop := v = r ∧ Fr n0 L ∧ h = h0
theorem own_fldI {args : Array Value} {s : State} {t : Term} {a : Addr} {C n d : String} {v : Int32} (ev : t.eval args s none [] s = some (.ref a)) (h : (Cond.eq (Term.field t C n d) (Term.int v)).value args s none s [] = some true) : Fld s s.heap a C n d (.int v) := by
  obtain ⟨x, y, hx, hy, k1, k2⟩ := cmp_v (Or.inl h)
  have hy' : y = .int v := (Option.some.inj (hy.symm.trans (Term.int_eval v)))
  subst hy'
  obtain ⟨z, rfl⟩ := k2
  have e : z = v := by
    simp only [Cond.value, hx, hy] at h
    simpa using h
  subst e
  exact Fld.start ((fld_at ev).symm.trans hx)
theorem own_fldN {args : Array Value} {s : State} {t : Term} {a : Addr} {C n d : String} (ev : t.eval args s none [] s = some (.ref a)) (h : (Cond.eq (Term.field t C n d) Term.null).value args s none s [] = some true) : Fld s s.heap a C n d .null :=
  Fld.start ((fld_at ev).symm.trans (null_v h))
theorem own_fldR {args : Array Value} {s : State} {t u : Term} {a b : Addr} {C n d : String} (ev : t.eval args s none [] s = some (.ref a)) (eu : u.eval args s none [] s = some (.ref b)) (h : (Cond.eq (Term.field t C n d) u).value args s none s [] = some true) : Fld s s.heap a C n d (.ref b) := by
  obtain ⟨x, y, hx, hy, k1, k2⟩ := cmp_v (Or.inl h)
  have hy' : y = .ref b := (Option.some.inj (hy.symm.trans eu))
  subst hy'
  have hr : x.isRef = true := by cases x <;> simp_all [Kin, Value.isRef]
  have e : x = .ref b := gotT (eq_R hx hy hr rfl) h
  subst e
  exact Fld.start ((fld_at ev).symm.trans hx)
theorem own_k_n (k : Int32) (h0 : 0 ≤ k.toInt) (h1 : k.toInt < 14) : k = (0 : Int32) ∨ k = (1 : Int32) ∨ k = (2 : Int32) ∨ k = (3 : Int32) ∨ k = (4 : Int32) ∨ k = (5 : Int32) ∨ k = (6 : Int32) ∨ k = (7 : Int32) ∨ k = (8 : Int32) ∨ k = (9 : Int32) ∨ k = (10 : Int32) ∨ k = (11 : Int32) ∨ k = (12 : Int32) ∨ k = (13 : Int32) := by
  have h : k.toInt = 0 ∨ k.toInt = 1 ∨ k.toInt = 2 ∨ k.toInt = 3 ∨ k.toInt = 4 ∨ k.toInt = 5 ∨ k.toInt = 6 ∨ k.toInt = 7 ∨ k.toInt = 8 ∨ k.toInt = 9 ∨ k.toInt = 10 ∨ k.toInt = 11 ∨ k.toInt = 12 ∨ k.toInt = 13 := by omega
  rcases h with h | h | h | h | h | h | h | h | h | h | h | h | h | h
  · exact (Or.inl (Int32.toInt_inj.mp (h.trans (by decide))))
  · exact (Or.inr (Or.inl (Int32.toInt_inj.mp (h.trans (by decide)))))
  · exact (Or.inr (Or.inr (Or.inl (Int32.toInt_inj.mp (h.trans (by decide))))))
  · exact (Or.inr (Or.inr (Or.inr (Or.inl (Int32.toInt_inj.mp (h.trans (by decide)))))))
  · exact (Or.inr (Or.inr (Or.inr (Or.inr (Or.inl (Int32.toInt_inj.mp (h.trans (by decide))))))))
  · exact (Or.inr (Or.inr (Or.inr (Or.inr (Or.inr (Or.inl (Int32.toInt_inj.mp (h.trans (by decide)))))))))
  · exact (Or.inr (Or.inr (Or.inr (Or.inr (Or.inr (Or.inr (Or.inl (Int32.toInt_inj.mp (h.trans (by decide))))))))))
  · exact (Or.inr (Or.inr (Or.inr (Or.inr (Or.inr (Or.inr (Or.inr (Or.inl (Int32.toInt_inj.mp (h.trans (by decide)))))))))))
  · exact (Or.inr (Or.inr (Or.inr (Or.inr (Or.inr (Or.inr (Or.inr (Or.inr (Or.inl (Int32.toInt_inj.mp (h.trans (by decide))))))))))))
  · exact (Or.inr (Or.inr (Or.inr (Or.inr (Or.inr (Or.inr (Or.inr (Or.inr (Or.inr (Or.inl (Int32.toInt_inj.mp (h.trans (by decide)))))))))))))
  · exact (Or.inr (Or.inr (Or.inr (Or.inr (Or.inr (Or.inr (Or.inr (Or.inr (Or.inr (Or.inr (Or.inl (Int32.toInt_inj.mp (h.trans (by decide))))))))))))))
  · exact (Or.inr (Or.inr (Or.inr (Or.inr (Or.inr (Or.inr (Or.inr (Or.inr (Or.inr (Or.inr (Or.inr (Or.inl (Int32.toInt_inj.mp (h.trans (by decide)))))))))))))))
  · exact (Or.inr (Or.inr (Or.inr (Or.inr (Or.inr (Or.inr (Or.inr (Or.inr (Or.inr (Or.inr (Or.inr (Or.inr (Or.inl (Int32.toInt_inj.mp (h.trans (by decide))))))))))))))))
  · exact (Or.inr (Or.inr (Or.inr (Or.inr (Or.inr (Or.inr (Or.inr (Or.inr (Or.inr (Or.inr (Or.inr (Or.inr (Or.inr (Int32.toInt_inj.mp (h.trans (by decide))))))))))))))))
theorem own_k (x : Int32) : ((x &&& (2147483647 : Int32)) % (14 : Int32)) = (0 : Int32) ∨ ((x &&& (2147483647 : Int32)) % (14 : Int32)) = (1 : Int32) ∨ ((x &&& (2147483647 : Int32)) % (14 : Int32)) = (2 : Int32) ∨ ((x &&& (2147483647 : Int32)) % (14 : Int32)) = (3 : Int32) ∨ ((x &&& (2147483647 : Int32)) % (14 : Int32)) = (4 : Int32) ∨ ((x &&& (2147483647 : Int32)) % (14 : Int32)) = (5 : Int32) ∨ ((x &&& (2147483647 : Int32)) % (14 : Int32)) = (6 : Int32) ∨ ((x &&& (2147483647 : Int32)) % (14 : Int32)) = (7 : Int32) ∨ ((x &&& (2147483647 : Int32)) % (14 : Int32)) = (8 : Int32) ∨ ((x &&& (2147483647 : Int32)) % (14 : Int32)) = (9 : Int32) ∨ ((x &&& (2147483647 : Int32)) % (14 : Int32)) = (10 : Int32) ∨ ((x &&& (2147483647 : Int32)) % (14 : Int32)) = (11 : Int32) ∨ ((x &&& (2147483647 : Int32)) % (14 : Int32)) = (12 : Int32) ∨ ((x &&& (2147483647 : Int32)) % (14 : Int32)) = (13 : Int32) := by
  have e := Jvm.Kit.i32_mask x (2147483647 : Int32) (k := 31) (by decide) (by decide)
  have e2 := Jvm.Kit.i32_rem_nonneg (x := x &&& (2147483647 : Int32)) (y := (14 : Int32)) (by omega)
  have e3 : ((14 : Int32)).toInt = 14 := by decide
  rw [e3] at e2
  exact own_k_n _ (by omega) (by omega)
theorem d1_0 : decode method_2_code 0 = .ok (.iload_n 0, 1) := by decide +kernel
theorem d1_1 : decode method_2_code 1 = .ok (.ifCond .ne 7, 3) := by decide +kernel
theorem d1_4 : decode method_2_code 4 = .ok (.getstatic 7, 3) := by decide +kernel
theorem d1_7 : decode method_2_code 7 = .ok (.areturn, 1) := by decide +kernel
theorem pn_1 : plainName "com/example/lessor/lessor/protocol/OperationIsBatchedPinLaw" = true := by first | (simp [plainName, overriddenIn]; done) | decide +kernel
theorem ef_1 (m : MethodId) (x0 : Int32) : entryFrame m #[(.int x0)] 1 = mkF m 0 #[.val (.int x0)] [] := by first | (simp [entryFrame, mkF, argsToLocals, Value.category]; done) | rfl
def Q1_f (Z : State) (p1 : Int32) (w2 : Addr) (h0 : Heap) (n0 : Nat) (v : Option Value) (h : Heap) (L : List Loc) : Prop := v = some (.ref w2) ∧ Fr n0 L ∧ h = h0
set_option maxRecDepth 65536 in
set_option maxHeartbeats 40000000 in
theorem rm1_f (l : Launch) (Z : State) (a0 : Array Value) (hw : ∀ d ∈ tables_1, d.before a0 Z = true) (ws : List Jvm.Cond) (p1 : Int32) (w2 : Addr) (h0 : Heap) (n0 : Nat) (Z0 : n0 ≤ h0.size) (S_MKDIR : Sta Z h0 "com/example/lessor/lessor/protocol/Operation" "MKDIR" "Lcom/example/lessor/lessor/protocol/Operation;" (.ref w2)) (hc1 : p1 = (0 : Int32)) :
    MetFree l (⟨"com/example/lessor/lessor/protocol/OperationIsBatchedPinLaw", "pick", "(I)Lcom/example/lessor/lessor/protocol/Operation;"⟩ : MethodName) (head1 (Jvm.Cond.code (⟨"com/example/lessor/lessor/protocol/OperationIsBatchedPinLaw", "pick", "(I)Lcom/example/lessor/lessor/protocol/Operation;"⟩ : MethodName) method_2_code 1 (some (.object "com/example/lessor/lessor/protocol/Operation")) :: ws) ({ frames := 0, cells := 0, slots := 0, locals := 0 } : Room)) (fun a U => a = #[(.int p1)] ∧ Z.Warmed39 U.vm ∧ U.heap = h0) (fun _ _ _ _ _ => True) (fun _ U o U' => ∃ v L, o = .returned v ∧ Q1_f Z p1 w2 h0 n0 v U'.heap L ∧ FrameEnd U o U' L ({ frames := 0, cells := 0, slots := 0, locals := 0 } : Room).cells ({ frames := 0, cells := 0, slots := 0, locals := 0 } : Room).slots) := by
  refine MetFree.of_bodySF (plainFor_of_name pn_1) hisR ?_
  intro p e s m args below meth c s₁ Bd hml0 hP hK
  obtain ⟨rfl, hZ, hh⟩ := hP
  have hx := Bd.exec
  have hby := Bd.bytes
  have hml : c.maxLocals = 1 := hml0
  have hown : s.vm.findClass "com/example/lessor/lessor/protocol/OperationIsBatchedPinLaw" = some m.cls := findClass_of_methodNamed Bd.named
  have hnm := (name_of_methodNamed Bd.named Bd.method).1
  have X0 : Stand p l e ({ frames := 0, cells := 0, slots := 0, locals := 0 } : Room) s m #[(.int p1)] below meth c s₁ [] 0 0 := Stand.of_body Bd
  have e0 : s₁.heap = h0 := by rw [← hh, Bd.state]; rfl
  have N0 := Fr.nil n0
  have pre0 : ∀ t, Steps p.tables e below (s₁.setTop (mkF m 0 #[.val (.int p1)] [])) t → Steps p.tables e below (s₁.setTop (entryFrame m #[(.int p1)] 1)) t := fun t k => castTop (ef_1 m p1) k
  -- 3. LAWS
  obtain ⟨T3, X3, e3, st3⟩ := getS2 X0 hx hZ hown (host := "") (Or.inl (hw _ (List.mem_of_getElem? (i := 5) rfl))) Via.refl e0 S_MKDIR (g := (mkF m 4 #[.val (.int p1)] [])) rfl (hb hby d1_4)
  obtain ⟨fs, hr, hrun, hended, hW, hsame⟩ := X3.leave (v := some (.ref w2)) (fun h => by rw [Bd.returns] at h; cases h)
  refine ⟨_, _, pre0 _ ?_, hrun, hended, _, _, rfl, ?_, ⟨_, rfl⟩, hW, hsame.mono (by decide) (by decide)⟩
  -- 4. STEPS
  · show Steps p.tables e below (s₁.setTop (mkF m 0 #[.val (.int p1)] [])) _
    refine XS.iloadN X0.here hx rfl (hb hby d1_0) rfl ?_
    show Steps p.tables e below (s₁.setTop (mkF m 1 #[.val (.int p1)] [(.int p1)])) _
    refine XS.ifNo X0.here hx rfl (hb hby d1_1) rfl ((if0 _ _).trans (teq hc1).2) ?_
    show Steps p.tables e below (s₁.setTop (mkF m 4 #[.val (.int p1)] [])) _
    refine st3 _ ?_
    show Steps p.tables e below (T3.setTop (mkF m 7 #[.val (.int p1)] [(.ref w2)])) _
    jvm_step X3.here [X3.here.top, hx, (hb hby d1_7), X3.method', Bd.returns, Value.isRef, FieldType.isReference]
    first | (intro acts; rw [hr _ acts rfl rfl rfl]) | rw [hr _ _ rfl rfl rfl]
    exact Steps.refl _
  · show Q1_f Z p1 w2 h0 n0 _ T3.heap _
    rw [e3]
    exact ⟨rfl, N0, rfl⟩
theorem d1_8 : decode method_2_code 8 = .ok (.iload_n 0, 1) := by decide +kernel
theorem d1_9 : decode method_2_code 9 = .ok (.iconst 1, 1) := by decide +kernel
theorem d1_10 : decode method_2_code 10 = .ok (.if_icmp .ne 7, 3) := by decide +kernel
theorem d1_13 : decode method_2_code 13 = .ok (.getstatic 13, 3) := by decide +kernel
theorem d1_16 : decode method_2_code 16 = .ok (.areturn, 1) := by decide +kernel
def Q1_tf (Z : State) (p1 : Int32) (w2 : Addr) (h0 : Heap) (n0 : Nat) (v : Option Value) (h : Heap) (L : List Loc) : Prop := v = some (.ref w2) ∧ Fr n0 L ∧ h = h0
set_option maxRecDepth 65536 in
set_option maxHeartbeats 40000000 in
theorem rm1_tf (l : Launch) (Z : State) (a0 : Array Value) (hw : ∀ d ∈ tables_1, d.before a0 Z = true) (ws : List Jvm.Cond) (p1 : Int32) (w2 : Addr) (h0 : Heap) (n0 : Nat) (Z0 : n0 ≤ h0.size) (S_CREATE : Sta Z h0 "com/example/lessor/lessor/protocol/Operation" "CREATE" "Lcom/example/lessor/lessor/protocol/Operation;" (.ref w2)) (hc1 : ¬ (p1 = (0 : Int32))) (hc10 : p1 = (1 : Int32)) :
    MetFree l (⟨"com/example/lessor/lessor/protocol/OperationIsBatchedPinLaw", "pick", "(I)Lcom/example/lessor/lessor/protocol/Operation;"⟩ : MethodName) (head1 (Jvm.Cond.code (⟨"com/example/lessor/lessor/protocol/OperationIsBatchedPinLaw", "pick", "(I)Lcom/example/lessor/lessor/protocol/Operation;"⟩ : MethodName) method_2_code 1 (some (.object "com/example/lessor/lessor/protocol/Operation")) :: ws) ({ frames := 0, cells := 0, slots := 0, locals := 0 } : Room)) (fun a U => a = #[(.int p1)] ∧ Z.Warmed39 U.vm ∧ U.heap = h0) (fun _ _ _ _ _ => True) (fun _ U o U' => ∃ v L, o = .returned v ∧ Q1_tf Z p1 w2 h0 n0 v U'.heap L ∧ FrameEnd U o U' L ({ frames := 0, cells := 0, slots := 0, locals := 0 } : Room).cells ({ frames := 0, cells := 0, slots := 0, locals := 0 } : Room).slots) := by
  refine MetFree.of_bodySF (plainFor_of_name pn_1) hisR ?_
  intro p e s m args below meth c s₁ Bd hml0 hP hK
  obtain ⟨rfl, hZ, hh⟩ := hP
  have hx := Bd.exec
  have hby := Bd.bytes
  have hml : c.maxLocals = 1 := hml0
  have hown : s.vm.findClass "com/example/lessor/lessor/protocol/OperationIsBatchedPinLaw" = some m.cls := findClass_of_methodNamed Bd.named
  have hnm := (name_of_methodNamed Bd.named Bd.method).1
  have X0 : Stand p l e ({ frames := 0, cells := 0, slots := 0, locals := 0 } : Room) s m #[(.int p1)] below meth c s₁ [] 0 0 := Stand.of_body Bd
  have e0 : s₁.heap = h0 := by rw [← hh, Bd.state]; rfl
  have N0 := Fr.nil n0
  have pre0 : ∀ t, Steps p.tables e below (s₁.setTop (mkF m 0 #[.val (.int p1)] [])) t → Steps p.tables e below (s₁.setTop (entryFrame m #[(.int p1)] 1)) t := fun t k => castTop (ef_1 m p1) k
  -- 3. LAWS
  obtain ⟨T3, X3, e3, st3⟩ := getS2 X0 hx hZ hown (host := "") (Or.inl (hw _ (List.mem_of_getElem? (i := 62) rfl))) Via.refl e0 S_CREATE (g := (mkF m 13 #[.val (.int p1)] [])) rfl (hb hby d1_13)
  obtain ⟨fs, hr, hrun, hended, hW, hsame⟩ := X3.leave (v := some (.ref w2)) (fun h => by rw [Bd.returns] at h; cases h)
  refine ⟨_, _, pre0 _ ?_, hrun, hended, _, _, rfl, ?_, ⟨_, rfl⟩, hW, hsame.mono (by decide) (by decide)⟩
  -- 4. STEPS
  · show Steps p.tables e below (s₁.setTop (mkF m 0 #[.val (.int p1)] [])) _
    refine XS.iloadN X0.here hx rfl (hb hby d1_0) rfl ?_
    show Steps p.tables e below (s₁.setTop (mkF m 1 #[.val (.int p1)] [(.int p1)])) _
    refine XS.ifYes X0.here hx rfl (pc0 := 1) (pc' := 8) rfl (hb hby d1_1) rfl ((if0 _ _).trans (feq hc1).2) (by decide) (by decide) ?_
    show Steps p.tables e below (s₁.setTop (mkF m 8 #[.val (.int p1)] [])) _
    refine XS.iloadN X0.here hx rfl (hb hby d1_8) rfl ?_
    show Steps p.tables e below (s₁.setTop (mkF m 9 #[.val (.int p1)] [(.int p1)])) _
    refine XS.iconst X0.here hx rfl (hb hby d1_9) ?_
    show Steps p.tables e below (s₁.setTop (mkF m 10 #[.val (.int p1)] [(.int (1 : Int32)), (.int p1)])) _
    refine XS.icmpNo X0.here hx rfl (hb hby d1_10) rfl (teq hc10).2 ?_
    show Steps p.tables e below (s₁.setTop (mkF m 13 #[.val (.int p1)] [])) _
    refine st3 _ ?_
    show Steps p.tables e below (T3.setTop (mkF m 16 #[.val (.int p1)] [(.ref w2)])) _
    jvm_step X3.here [X3.here.top, hx, (hb hby d1_16), X3.method', Bd.returns, Value.isRef, FieldType.isReference]
    first | (intro acts; rw [hr _ acts rfl rfl rfl]) | rw [hr _ _ rfl rfl rfl]
    exact Steps.refl _
  · show Q1_tf Z p1 w2 h0 n0 _ T3.heap _
    rw [e3]
    exact ⟨rfl, N0, rfl⟩
theorem d1_17 : decode method_2_code 17 = .ok (.iload_n 0, 1) := by decide +kernel
theorem d1_18 : decode method_2_code 18 = .ok (.iconst 2, 1) := by decide +kernel
theorem d1_19 : decode method_2_code 19 = .ok (.if_icmp .ne 7, 3) := by decide +kernel
theorem d1_22 : decode method_2_code 22 = .ok (.getstatic 16, 3) := by decide +kernel
theorem d1_25 : decode method_2_code 25 = .ok (.areturn, 1) := by decide +kernel
def Q1_ttf (Z : State) (p1 : Int32) (w2 : Addr) (h0 : Heap) (n0 : Nat) (v : Option Value) (h : Heap) (L : List Loc) : Prop := v = some (.ref w2) ∧ Fr n0 L ∧ h = h0
set_option maxRecDepth 65536 in
set_option maxHeartbeats 40000000 in
theorem rm1_ttf (l : Launch) (Z : State) (a0 : Array Value) (hw : ∀ d ∈ tables_1, d.before a0 Z = true) (ws : List Jvm.Cond) (p1 : Int32) (w2 : Addr) (h0 : Heap) (n0 : Nat) (Z0 : n0 ≤ h0.size) (S_UNLINK : Sta Z h0 "com/example/lessor/lessor/protocol/Operation" "UNLINK" "Lcom/example/lessor/lessor/protocol/Operation;" (.ref w2)) (hc1 : ¬ (p1 = (0 : Int32))) (hc10 : ¬ (p1 = (1 : Int32))) (hc19 : p1 = (2 : Int32)) :
    MetFree l (⟨"com/example/lessor/lessor/protocol/OperationIsBatchedPinLaw", "pick", "(I)Lcom/example/lessor/lessor/protocol/Operation;"⟩ : MethodName) (head1 (Jvm.Cond.code (⟨"com/example/lessor/lessor/protocol/OperationIsBatchedPinLaw", "pick", "(I)Lcom/example/lessor/lessor/protocol/Operation;"⟩ : MethodName) method_2_code 1 (some (.object "com/example/lessor/lessor/protocol/Operation")) :: ws) ({ frames := 0, cells := 0, slots := 0, locals := 0 } : Room)) (fun a U => a = #[(.int p1)] ∧ Z.Warmed39 U.vm ∧ U.heap = h0) (fun _ _ _ _ _ => True) (fun _ U o U' => ∃ v L, o = .returned v ∧ Q1_ttf Z p1 w2 h0 n0 v U'.heap L ∧ FrameEnd U o U' L ({ frames := 0, cells := 0, slots := 0, locals := 0 } : Room).cells ({ frames := 0, cells := 0, slots := 0, locals := 0 } : Room).slots) := by
  refine MetFree.of_bodySF (plainFor_of_name pn_1) hisR ?_
  intro p e s m args below meth c s₁ Bd hml0 hP hK
  obtain ⟨rfl, hZ, hh⟩ := hP
  have hx := Bd.exec
  have hby := Bd.bytes
  have hml : c.maxLocals = 1 := hml0
  have hown : s.vm.findClass "com/example/lessor/lessor/protocol/OperationIsBatchedPinLaw" = some m.cls := findClass_of_methodNamed Bd.named
  have hnm := (name_of_methodNamed Bd.named Bd.method).1
  have X0 : Stand p l e ({ frames := 0, cells := 0, slots := 0, locals := 0 } : Room) s m #[(.int p1)] below meth c s₁ [] 0 0 := Stand.of_body Bd
  have e0 : s₁.heap = h0 := by rw [← hh, Bd.state]; rfl
  have N0 := Fr.nil n0
  have pre0 : ∀ t, Steps p.tables e below (s₁.setTop (mkF m 0 #[.val (.int p1)] [])) t → Steps p.tables e below (s₁.setTop (entryFrame m #[(.int p1)] 1)) t := fun t k => castTop (ef_1 m p1) k
  -- 3. LAWS
  obtain ⟨T3, X3, e3, st3⟩ := getS2 X0 hx hZ hown (host := "") (Or.inl (hw _ (List.mem_of_getElem? (i := 55) rfl))) Via.refl e0 S_UNLINK (g := (mkF m 22 #[.val (.int p1)] [])) rfl (hb hby d1_22)
  obtain ⟨fs, hr, hrun, hended, hW, hsame⟩ := X3.leave (v := some (.ref w2)) (fun h => by rw [Bd.returns] at h; cases h)
  refine ⟨_, _, pre0 _ ?_, hrun, hended, _, _, rfl, ?_, ⟨_, rfl⟩, hW, hsame.mono (by decide) (by decide)⟩
  -- 4. STEPS
  · show Steps p.tables e below (s₁.setTop (mkF m 0 #[.val (.int p1)] [])) _
    refine XS.iloadN X0.here hx rfl (hb hby d1_0) rfl ?_
    show Steps p.tables e below (s₁.setTop (mkF m 1 #[.val (.int p1)] [(.int p1)])) _
    refine XS.ifYes X0.here hx rfl (pc0 := 1) (pc' := 8) rfl (hb hby d1_1) rfl ((if0 _ _).trans (feq hc1).2) (by decide) (by decide) ?_
    show Steps p.tables e below (s₁.setTop (mkF m 8 #[.val (.int p1)] [])) _
    refine XS.iloadN X0.here hx rfl (hb hby d1_8) rfl ?_
    show Steps p.tables e below (s₁.setTop (mkF m 9 #[.val (.int p1)] [(.int p1)])) _
    refine XS.iconst X0.here hx rfl (hb hby d1_9) ?_
    show Steps p.tables e below (s₁.setTop (mkF m 10 #[.val (.int p1)] [(.int (1 : Int32)), (.int p1)])) _
    refine XS.icmpYes X0.here hx rfl (pc0 := 10) (pc' := 17) rfl (hb hby d1_10) rfl (feq hc10).2 (by decide) (by decide) ?_
    show Steps p.tables e below (s₁.setTop (mkF m 17 #[.val (.int p1)] [])) _
    refine XS.iloadN X0.here hx rfl (hb hby d1_17) rfl ?_
    show Steps p.tables e below (s₁.setTop (mkF m 18 #[.val (.int p1)] [(.int p1)])) _
    refine XS.iconst X0.here hx rfl (hb hby d1_18) ?_
    show Steps p.tables e below (s₁.setTop (mkF m 19 #[.val (.int p1)] [(.int (2 : Int32)), (.int p1)])) _
    refine XS.icmpNo X0.here hx rfl (hb hby d1_19) rfl (teq hc19).2 ?_
    show Steps p.tables e below (s₁.setTop (mkF m 22 #[.val (.int p1)] [])) _
    refine st3 _ ?_
    show Steps p.tables e below (T3.setTop (mkF m 25 #[.val (.int p1)] [(.ref w2)])) _
    jvm_step X3.here [X3.here.top, hx, (hb hby d1_25), X3.method', Bd.returns, Value.isRef, FieldType.isReference]
    first | (intro acts; rw [hr _ acts rfl rfl rfl]) | rw [hr _ _ rfl rfl rfl]
    exact Steps.refl _
  · show Q1_ttf Z p1 w2 h0 n0 _ T3.heap _
    rw [e3]
    exact ⟨rfl, N0, rfl⟩
theorem d1_26 : decode method_2_code 26 = .ok (.iload_n 0, 1) := by decide +kernel
theorem d1_27 : decode method_2_code 27 = .ok (.iconst 3, 1) := by decide +kernel
theorem d1_28 : decode method_2_code 28 = .ok (.if_icmp .ne 7, 3) := by decide +kernel
theorem d1_31 : decode method_2_code 31 = .ok (.getstatic 19, 3) := by decide +kernel
theorem d1_34 : decode method_2_code 34 = .ok (.areturn, 1) := by decide +kernel
def Q1_tttf (Z : State) (p1 : Int32) (w2 : Addr) (h0 : Heap) (n0 : Nat) (v : Option Value) (h : Heap) (L : List Loc) : Prop := v = some (.ref w2) ∧ Fr n0 L ∧ h = h0
set_option maxRecDepth 65536 in
set_option maxHeartbeats 40000000 in
theorem rm1_tttf (l : Launch) (Z : State) (a0 : Array Value) (hw : ∀ d ∈ tables_1, d.before a0 Z = true) (ws : List Jvm.Cond) (p1 : Int32) (w2 : Addr) (h0 : Heap) (n0 : Nat) (Z0 : n0 ≤ h0.size) (S_RMDIR : Sta Z h0 "com/example/lessor/lessor/protocol/Operation" "RMDIR" "Lcom/example/lessor/lessor/protocol/Operation;" (.ref w2)) (hc1 : ¬ (p1 = (0 : Int32))) (hc10 : ¬ (p1 = (1 : Int32))) (hc19 : ¬ (p1 = (2 : Int32))) (hc28 : p1 = (3 : Int32)) :
    MetFree l (⟨"com/example/lessor/lessor/protocol/OperationIsBatchedPinLaw", "pick", "(I)Lcom/example/lessor/lessor/protocol/Operation;"⟩ : MethodName) (head1 (Jvm.Cond.code (⟨"com/example/lessor/lessor/protocol/OperationIsBatchedPinLaw", "pick", "(I)Lcom/example/lessor/lessor/protocol/Operation;"⟩ : MethodName) method_2_code 1 (some (.object "com/example/lessor/lessor/protocol/Operation")) :: ws) ({ frames := 0, cells := 0, slots := 0, locals := 0 } : Room)) (fun a U => a = #[(.int p1)] ∧ Z.Warmed39 U.vm ∧ U.heap = h0) (fun _ _ _ _ _ => True) (fun _ U o U' => ∃ v L, o = .returned v ∧ Q1_tttf Z p1 w2 h0 n0 v U'.heap L ∧ FrameEnd U o U' L ({ frames := 0, cells := 0, slots := 0, locals := 0 } : Room).cells ({ frames := 0, cells := 0, slots := 0, locals := 0 } : Room).slots) := by
  refine MetFree.of_bodySF (plainFor_of_name pn_1) hisR ?_
  intro p e s m args below meth c s₁ Bd hml0 hP hK
  obtain ⟨rfl, hZ, hh⟩ := hP
  have hx := Bd.exec
  have hby := Bd.bytes
  have hml : c.maxLocals = 1 := hml0
  have hown : s.vm.findClass "com/example/lessor/lessor/protocol/OperationIsBatchedPinLaw" = some m.cls := findClass_of_methodNamed Bd.named
  have hnm := (name_of_methodNamed Bd.named Bd.method).1
  have X0 : Stand p l e ({ frames := 0, cells := 0, slots := 0, locals := 0 } : Room) s m #[(.int p1)] below meth c s₁ [] 0 0 := Stand.of_body Bd
  have e0 : s₁.heap = h0 := by rw [← hh, Bd.state]; rfl
  have N0 := Fr.nil n0
  have pre0 : ∀ t, Steps p.tables e below (s₁.setTop (mkF m 0 #[.val (.int p1)] [])) t → Steps p.tables e below (s₁.setTop (entryFrame m #[(.int p1)] 1)) t := fun t k => castTop (ef_1 m p1) k
  -- 3. LAWS
  obtain ⟨T3, X3, e3, st3⟩ := getS2 X0 hx hZ hown (host := "") (Or.inl (hw _ (List.mem_of_getElem? (i := 38) rfl))) Via.refl e0 S_RMDIR (g := (mkF m 31 #[.val (.int p1)] [])) rfl (hb hby d1_31)
  obtain ⟨fs, hr, hrun, hended, hW, hsame⟩ := X3.leave (v := some (.ref w2)) (fun h => by rw [Bd.returns] at h; cases h)
  refine ⟨_, _, pre0 _ ?_, hrun, hended, _, _, rfl, ?_, ⟨_, rfl⟩, hW, hsame.mono (by decide) (by decide)⟩
  -- 4. STEPS
  · show Steps p.tables e below (s₁.setTop (mkF m 0 #[.val (.int p1)] [])) _
    refine XS.iloadN X0.here hx rfl (hb hby d1_0) rfl ?_
    show Steps p.tables e below (s₁.setTop (mkF m 1 #[.val (.int p1)] [(.int p1)])) _
    refine XS.ifYes X0.here hx rfl (pc0 := 1) (pc' := 8) rfl (hb hby d1_1) rfl ((if0 _ _).trans (feq hc1).2) (by decide) (by decide) ?_
    show Steps p.tables e below (s₁.setTop (mkF m 8 #[.val (.int p1)] [])) _
    refine XS.iloadN X0.here hx rfl (hb hby d1_8) rfl ?_
    show Steps p.tables e below (s₁.setTop (mkF m 9 #[.val (.int p1)] [(.int p1)])) _
    refine XS.iconst X0.here hx rfl (hb hby d1_9) ?_
    show Steps p.tables e below (s₁.setTop (mkF m 10 #[.val (.int p1)] [(.int (1 : Int32)), (.int p1)])) _
    refine XS.icmpYes X0.here hx rfl (pc0 := 10) (pc' := 17) rfl (hb hby d1_10) rfl (feq hc10).2 (by decide) (by decide) ?_
    show Steps p.tables e below (s₁.setTop (mkF m 17 #[.val (.int p1)] [])) _
    refine XS.iloadN X0.here hx rfl (hb hby d1_17) rfl ?_
    show Steps p.tables e below (s₁.setTop (mkF m 18 #[.val (.int p1)] [(.int p1)])) _
    refine XS.iconst X0.here hx rfl (hb hby d1_18) ?_
    show Steps p.tables e below (s₁.setTop (mkF m 19 #[.val (.int p1)] [(.int (2 : Int32)), (.int p1)])) _
    refine XS.icmpYes X0.here hx rfl (pc0 := 19) (pc' := 26) rfl (hb hby d1_19) rfl (feq hc19).2 (by decide) (by decide) ?_
    show Steps p.tables e below (s₁.setTop (mkF m 26 #[.val (.int p1)] [])) _
    refine XS.iloadN X0.here hx rfl (hb hby d1_26) rfl ?_
    show Steps p.tables e below (s₁.setTop (mkF m 27 #[.val (.int p1)] [(.int p1)])) _
    refine XS.iconst X0.here hx rfl (hb hby d1_27) ?_
    show Steps p.tables e below (s₁.setTop (mkF m 28 #[.val (.int p1)] [(.int (3 : Int32)), (.int p1)])) _
    refine XS.icmpNo X0.here hx rfl (hb hby d1_28) rfl (teq hc28).2 ?_
    show Steps p.tables e below (s₁.setTop (mkF m 31 #[.val (.int p1)] [])) _
    refine st3 _ ?_
    show Steps p.tables e below (T3.setTop (mkF m 34 #[.val (.int p1)] [(.ref w2)])) _
    jvm_step X3.here [X3.here.top, hx, (hb hby d1_34), X3.method', Bd.returns, Value.isRef, FieldType.isReference]
    first | (intro acts; rw [hr _ acts rfl rfl rfl]) | rw [hr _ _ rfl rfl rfl]
    exact Steps.refl _
  · show Q1_tttf Z p1 w2 h0 n0 _ T3.heap _
    rw [e3]
    exact ⟨rfl, N0, rfl⟩
theorem d1_35 : decode method_2_code 35 = .ok (.iload_n 0, 1) := by decide +kernel
theorem d1_36 : decode method_2_code 36 = .ok (.iconst 4, 1) := by decide +kernel
theorem d1_37 : decode method_2_code 37 = .ok (.if_icmp .ne 7, 3) := by decide +kernel
theorem d1_40 : decode method_2_code 40 = .ok (.getstatic 22, 3) := by decide +kernel
theorem d1_43 : decode method_2_code 43 = .ok (.areturn, 1) := by decide +kernel
def Q1_ttttf (Z : State) (p1 : Int32) (w2 : Addr) (h0 : Heap) (n0 : Nat) (v : Option Value) (h : Heap) (L : List Loc) : Prop := v = some (.ref w2) ∧ Fr n0 L ∧ h = h0
set_option maxRecDepth 65536 in
set_option maxHeartbeats 40000000 in
theorem rm1_ttttf (l : Launch) (Z : State) (a0 : Array Value) (hw : ∀ d ∈ tables_1, d.before a0 Z = true) (ws : List Jvm.Cond) (p1 : Int32) (w2 : Addr) (h0 : Heap) (n0 : Nat) (Z0 : n0 ≤ h0.size) (S_RENAME : Sta Z h0 "com/example/lessor/lessor/protocol/Operation" "RENAME" "Lcom/example/lessor/lessor/protocol/Operation;" (.ref w2)) (hc1 : ¬ (p1 = (0 : Int32))) (hc10 : ¬ (p1 = (1 : Int32))) (hc19 : ¬ (p1 = (2 : Int32))) (hc28 : ¬ (p1 = (3 : Int32))) (hc37 : p1 = (4 : Int32)) :
    MetFree l (⟨"com/example/lessor/lessor/protocol/OperationIsBatchedPinLaw", "pick", "(I)Lcom/example/lessor/lessor/protocol/Operation;"⟩ : MethodName) (head1 (Jvm.Cond.code (⟨"com/example/lessor/lessor/protocol/OperationIsBatchedPinLaw", "pick", "(I)Lcom/example/lessor/lessor/protocol/Operation;"⟩ : MethodName) method_2_code 1 (some (.object "com/example/lessor/lessor/protocol/Operation")) :: ws) ({ frames := 0, cells := 0, slots := 0, locals := 0 } : Room)) (fun a U => a = #[(.int p1)] ∧ Z.Warmed39 U.vm ∧ U.heap = h0) (fun _ _ _ _ _ => True) (fun _ U o U' => ∃ v L, o = .returned v ∧ Q1_ttttf Z p1 w2 h0 n0 v U'.heap L ∧ FrameEnd U o U' L ({ frames := 0, cells := 0, slots := 0, locals := 0 } : Room).cells ({ frames := 0, cells := 0, slots := 0, locals := 0 } : Room).slots) := by
  refine MetFree.of_bodySF (plainFor_of_name pn_1) hisR ?_
  intro p e s m args below meth c s₁ Bd hml0 hP hK
  obtain ⟨rfl, hZ, hh⟩ := hP
  have hx := Bd.exec
  have hby := Bd.bytes
  have hml : c.maxLocals = 1 := hml0
  have hown : s.vm.findClass "com/example/lessor/lessor/protocol/OperationIsBatchedPinLaw" = some m.cls := findClass_of_methodNamed Bd.named
  have hnm := (name_of_methodNamed Bd.named Bd.method).1
  have X0 : Stand p l e ({ frames := 0, cells := 0, slots := 0, locals := 0 } : Room) s m #[(.int p1)] below meth c s₁ [] 0 0 := Stand.of_body Bd
  have e0 : s₁.heap = h0 := by rw [← hh, Bd.state]; rfl
  have N0 := Fr.nil n0
  have pre0 : ∀ t, Steps p.tables e below (s₁.setTop (mkF m 0 #[.val (.int p1)] [])) t → Steps p.tables e below (s₁.setTop (entryFrame m #[(.int p1)] 1)) t := fun t k => castTop (ef_1 m p1) k
  -- 3. LAWS
  obtain ⟨T3, X3, e3, st3⟩ := getS2 X0 hx hZ hown (host := "") (Or.inl (hw _ (List.mem_of_getElem? (i := 52) rfl))) Via.refl e0 S_RENAME (g := (mkF m 40 #[.val (.int p1)] [])) rfl (hb hby d1_40)
  obtain ⟨fs, hr, hrun, hended, hW, hsame⟩ := X3.leave (v := some (.ref w2)) (fun h => by rw [Bd.returns] at h; cases h)
  refine ⟨_, _, pre0 _ ?_, hrun, hended, _, _, rfl, ?_, ⟨_, rfl⟩, hW, hsame.mono (by decide) (by decide)⟩
  -- 4. STEPS
  · show Steps p.tables e below (s₁.setTop (mkF m 0 #[.val (.int p1)] [])) _
    refine XS.iloadN X0.here hx rfl (hb hby d1_0) rfl ?_
    show Steps p.tables e below (s₁.setTop (mkF m 1 #[.val (.int p1)] [(.int p1)])) _
    refine XS.ifYes X0.here hx rfl (pc0 := 1) (pc' := 8) rfl (hb hby d1_1) rfl ((if0 _ _).trans (feq hc1).2) (by decide) (by decide) ?_
    show Steps p.tables e below (s₁.setTop (mkF m 8 #[.val (.int p1)] [])) _
    refine XS.iloadN X0.here hx rfl (hb hby d1_8) rfl ?_
    show Steps p.tables e below (s₁.setTop (mkF m 9 #[.val (.int p1)] [(.int p1)])) _
    refine XS.iconst X0.here hx rfl (hb hby d1_9) ?_
    show Steps p.tables e below (s₁.setTop (mkF m 10 #[.val (.int p1)] [(.int (1 : Int32)), (.int p1)])) _
    refine XS.icmpYes X0.here hx rfl (pc0 := 10) (pc' := 17) rfl (hb hby d1_10) rfl (feq hc10).2 (by decide) (by decide) ?_
    show Steps p.tables e below (s₁.setTop (mkF m 17 #[.val (.int p1)] [])) _
    refine XS.iloadN X0.here hx rfl (hb hby d1_17) rfl ?_
    show Steps p.tables e below (s₁.setTop (mkF m 18 #[.val (.int p1)] [(.int p1)])) _
    refine XS.iconst X0.here hx rfl (hb hby d1_18) ?_
    show Steps p.tables e below (s₁.setTop (mkF m 19 #[.val (.int p1)] [(.int (2 : Int32)), (.int p1)])) _
    refine XS.icmpYes X0.here hx rfl (pc0 := 19) (pc' := 26) rfl (hb hby d1_19) rfl (feq hc19).2 (by decide) (by decide) ?_
    show Steps p.tables e below (s₁.setTop (mkF m 26 #[.val (.int p1)] [])) _
    refine XS.iloadN X0.here hx rfl (hb hby d1_26) rfl ?_
    show Steps p.tables e below (s₁.setTop (mkF m 27 #[.val (.int p1)] [(.int p1)])) _
    refine XS.iconst X0.here hx rfl (hb hby d1_27) ?_
    show Steps p.tables e below (s₁.setTop (mkF m 28 #[.val (.int p1)] [(.int (3 : Int32)), (.int p1)])) _
    refine XS.icmpYes X0.here hx rfl (pc0 := 28) (pc' := 35) rfl (hb hby d1_28) rfl (feq hc28).2 (by decide) (by decide) ?_
    show Steps p.tables e below (s₁.setTop (mkF m 35 #[.val (.int p1)] [])) _
    refine XS.iloadN X0.here hx rfl (hb hby d1_35) rfl ?_
    show Steps p.tables e below (s₁.setTop (mkF m 36 #[.val (.int p1)] [(.int p1)])) _
    refine XS.iconst X0.here hx rfl (hb hby d1_36) ?_
    show Steps p.tables e below (s₁.setTop (mkF m 37 #[.val (.int p1)] [(.int (4 : Int32)), (.int p1)])) _
    refine XS.icmpNo X0.here hx rfl (hb hby d1_37) rfl (teq hc37).2 ?_
    show Steps p.tables e below (s₁.setTop (mkF m 40 #[.val (.int p1)] [])) _
    refine st3 _ ?_
    show Steps p.tables e below (T3.setTop (mkF m 43 #[.val (.int p1)] [(.ref w2)])) _
    jvm_step X3.here [X3.here.top, hx, (hb hby d1_43), X3.method', Bd.returns, Value.isRef, FieldType.isReference]
    first | (intro acts; rw [hr _ acts rfl rfl rfl]) | rw [hr _ _ rfl rfl rfl]
    exact Steps.refl _
  · show Q1_ttttf Z p1 w2 h0 n0 _ T3.heap _
    rw [e3]
    exact ⟨rfl, N0, rfl⟩
theorem d1_44 : decode method_2_code 44 = .ok (.iload_n 0, 1) := by decide +kernel
theorem d1_45 : decode method_2_code 45 = .ok (.iconst 5, 1) := by decide +kernel
theorem d1_46 : decode method_2_code 46 = .ok (.if_icmp .ne 7, 3) := by decide +kernel
theorem d1_49 : decode method_2_code 49 = .ok (.getstatic 25, 3) := by decide +kernel
theorem d1_52 : decode method_2_code 52 = .ok (.areturn, 1) := by decide +kernel
def Q1_tttttf (Z : State) (p1 : Int32) (w2 : Addr) (h0 : Heap) (n0 : Nat) (v : Option Value) (h : Heap) (L : List Loc) : Prop := v = some (.ref w2) ∧ Fr n0 L ∧ h = h0
set_option maxRecDepth 65536 in
set_option maxHeartbeats 40000000 in
theorem rm1_tttttf (l : Launch) (Z : State) (a0 : Array Value) (hw : ∀ d ∈ tables_1, d.before a0 Z = true) (ws : List Jvm.Cond) (p1 : Int32) (w2 : Addr) (h0 : Heap) (n0 : Nat) (Z0 : n0 ≤ h0.size) (S_LIST : Sta Z h0 "com/example/lessor/lessor/protocol/Operation" "LIST" "Lcom/example/lessor/lessor/protocol/Operation;" (.ref w2)) (hc1 : ¬ (p1 = (0 : Int32))) (hc10 : ¬ (p1 = (1 : Int32))) (hc19 : ¬ (p1 = (2 : Int32))) (hc28 : ¬ (p1 = (3 : Int32))) (hc37 : ¬ (p1 = (4 : Int32))) (hc46 : p1 = (5 : Int32)) :
    MetFree l (⟨"com/example/lessor/lessor/protocol/OperationIsBatchedPinLaw", "pick", "(I)Lcom/example/lessor/lessor/protocol/Operation;"⟩ : MethodName) (head1 (Jvm.Cond.code (⟨"com/example/lessor/lessor/protocol/OperationIsBatchedPinLaw", "pick", "(I)Lcom/example/lessor/lessor/protocol/Operation;"⟩ : MethodName) method_2_code 1 (some (.object "com/example/lessor/lessor/protocol/Operation")) :: ws) ({ frames := 0, cells := 0, slots := 0, locals := 0 } : Room)) (fun a U => a = #[(.int p1)] ∧ Z.Warmed39 U.vm ∧ U.heap = h0) (fun _ _ _ _ _ => True) (fun _ U o U' => ∃ v L, o = .returned v ∧ Q1_tttttf Z p1 w2 h0 n0 v U'.heap L ∧ FrameEnd U o U' L ({ frames := 0, cells := 0, slots := 0, locals := 0 } : Room).cells ({ frames := 0, cells := 0, slots := 0, locals := 0 } : Room).slots) := by
  refine MetFree.of_bodySF (plainFor_of_name pn_1) hisR ?_
  intro p e s m args below meth c s₁ Bd hml0 hP hK
  obtain ⟨rfl, hZ, hh⟩ := hP
  have hx := Bd.exec
  have hby := Bd.bytes
  have hml : c.maxLocals = 1 := hml0
  have hown : s.vm.findClass "com/example/lessor/lessor/protocol/OperationIsBatchedPinLaw" = some m.cls := findClass_of_methodNamed Bd.named
  have hnm := (name_of_methodNamed Bd.named Bd.method).1
  have X0 : Stand p l e ({ frames := 0, cells := 0, slots := 0, locals := 0 } : Room) s m #[(.int p1)] below meth c s₁ [] 0 0 := Stand.of_body Bd
  have e0 : s₁.heap = h0 := by rw [← hh, Bd.state]; rfl
  have N0 := Fr.nil n0
  have pre0 : ∀ t, Steps p.tables e below (s₁.setTop (mkF m 0 #[.val (.int p1)] [])) t → Steps p.tables e below (s₁.setTop (entryFrame m #[(.int p1)] 1)) t := fun t k => castTop (ef_1 m p1) k
  -- 3. LAWS
  obtain ⟨T3, X3, e3, st3⟩ := getS2 X0 hx hZ hown (host := "") (Or.inl (hw _ (List.mem_of_getElem? (i := 65) rfl))) Via.refl e0 S_LIST (g := (mkF m 49 #[.val (.int p1)] [])) rfl (hb hby d1_49)
  obtain ⟨fs, hr, hrun, hended, hW, hsame⟩ := X3.leave (v := some (.ref w2)) (fun h => by rw [Bd.returns] at h; cases h)
  refine ⟨_, _, pre0 _ ?_, hrun, hended, _, _, rfl, ?_, ⟨_, rfl⟩, hW, hsame.mono (by decide) (by decide)⟩
  -- 4. STEPS
  · show Steps p.tables e below (s₁.setTop (mkF m 0 #[.val (.int p1)] [])) _
    refine XS.iloadN X0.here hx rfl (hb hby d1_0) rfl ?_
    show Steps p.tables e below (s₁.setTop (mkF m 1 #[.val (.int p1)] [(.int p1)])) _
    refine XS.ifYes X0.here hx rfl (pc0 := 1) (pc' := 8) rfl (hb hby d1_1) rfl ((if0 _ _).trans (feq hc1).2) (by decide) (by decide) ?_
    show Steps p.tables e below (s₁.setTop (mkF m 8 #[.val (.int p1)] [])) _
    refine XS.iloadN X0.here hx rfl (hb hby d1_8) rfl ?_
    show Steps p.tables e below (s₁.setTop (mkF m 9 #[.val (.int p1)] [(.int p1)])) _
    refine XS.iconst X0.here hx rfl (hb hby d1_9) ?_
    show Steps p.tables e below (s₁.setTop (mkF m 10 #[.val (.int p1)] [(.int (1 : Int32)), (.int p1)])) _
    refine XS.icmpYes X0.here hx rfl (pc0 := 10) (pc' := 17) rfl (hb hby d1_10) rfl (feq hc10).2 (by decide) (by decide) ?_
    show Steps p.tables e below (s₁.setTop (mkF m 17 #[.val (.int p1)] [])) _
    refine XS.iloadN X0.here hx rfl (hb hby d1_17) rfl ?_
    show Steps p.tables e below (s₁.setTop (mkF m 18 #[.val (.int p1)] [(.int p1)])) _
    refine XS.iconst X0.here hx rfl (hb hby d1_18) ?_
    show Steps p.tables e below (s₁.setTop (mkF m 19 #[.val (.int p1)] [(.int (2 : Int32)), (.int p1)])) _
    refine XS.icmpYes X0.here hx rfl (pc0 := 19) (pc' := 26) rfl (hb hby d1_19) rfl (feq hc19).2 (by decide) (by decide) ?_
    show Steps p.tables e below (s₁.setTop (mkF m 26 #[.val (.int p1)] [])) _
    refine XS.iloadN X0.here hx rfl (hb hby d1_26) rfl ?_
    show Steps p.tables e below (s₁.setTop (mkF m 27 #[.val (.int p1)] [(.int p1)])) _
    refine XS.iconst X0.here hx rfl (hb hby d1_27) ?_
    show Steps p.tables e below (s₁.setTop (mkF m 28 #[.val (.int p1)] [(.int (3 : Int32)), (.int p1)])) _
    refine XS.icmpYes X0.here hx rfl (pc0 := 28) (pc' := 35) rfl (hb hby d1_28) rfl (feq hc28).2 (by decide) (by decide) ?_
    show Steps p.tables e below (s₁.setTop (mkF m 35 #[.val (.int p1)] [])) _
    refine XS.iloadN X0.here hx rfl (hb hby d1_35) rfl ?_
    show Steps p.tables e below (s₁.setTop (mkF m 36 #[.val (.int p1)] [(.int p1)])) _
    refine XS.iconst X0.here hx rfl (hb hby d1_36) ?_
    show Steps p.tables e below (s₁.setTop (mkF m 37 #[.val (.int p1)] [(.int (4 : Int32)), (.int p1)])) _
    refine XS.icmpYes X0.here hx rfl (pc0 := 37) (pc' := 44) rfl (hb hby d1_37) rfl (feq hc37).2 (by decide) (by decide) ?_
    show Steps p.tables e below (s₁.setTop (mkF m 44 #[.val (.int p1)] [])) _
    refine XS.iloadN X0.here hx rfl (hb hby d1_44) rfl ?_
    show Steps p.tables e below (s₁.setTop (mkF m 45 #[.val (.int p1)] [(.int p1)])) _
    refine XS.iconst X0.here hx rfl (hb hby d1_45) ?_
    show Steps p.tables e below (s₁.setTop (mkF m 46 #[.val (.int p1)] [(.int (5 : Int32)), (.int p1)])) _
    refine XS.icmpNo X0.here hx rfl (hb hby d1_46) rfl (teq hc46).2 ?_
    show Steps p.tables e below (s₁.setTop (mkF m 49 #[.val (.int p1)] [])) _
    refine st3 _ ?_
    show Steps p.tables e below (T3.setTop (mkF m 52 #[.val (.int p1)] [(.ref w2)])) _
    jvm_step X3.here [X3.here.top, hx, (hb hby d1_52), X3.method', Bd.returns, Value.isRef, FieldType.isReference]
    first | (intro acts; rw [hr _ acts rfl rfl rfl]) | rw [hr _ _ rfl rfl rfl]
    exact Steps.refl _
  · show Q1_tttttf Z p1 w2 h0 n0 _ T3.heap _
    rw [e3]
    exact ⟨rfl, N0, rfl⟩
theorem d1_53 : decode method_2_code 53 = .ok (.iload_n 0, 1) := by decide +kernel
theorem d1_54 : decode method_2_code 54 = .ok (.bipush 6, 2) := by decide +kernel
theorem d1_56 : decode method_2_code 56 = .ok (.if_icmp .ne 7, 3) := by decide +kernel
theorem d1_59 : decode method_2_code 59 = .ok (.getstatic 28, 3) := by decide +kernel
theorem d1_62 : decode method_2_code 62 = .ok (.areturn, 1) := by decide +kernel
def Q1_ttttttf (Z : State) (p1 : Int32) (w2 : Addr) (h0 : Heap) (n0 : Nat) (v : Option Value) (h : Heap) (L : List Loc) : Prop := v = some (.ref w2) ∧ Fr n0 L ∧ h = h0
set_option maxRecDepth 65536 in
set_option maxHeartbeats 40000000 in
theorem rm1_ttttttf (l : Launch) (Z : State) (a0 : Array Value) (hw : ∀ d ∈ tables_1, d.before a0 Z = true) (ws : List Jvm.Cond) (p1 : Int32) (w2 : Addr) (h0 : Heap) (n0 : Nat) (Z0 : n0 ≤ h0.size) (S_STAT : Sta Z h0 "com/example/lessor/lessor/protocol/Operation" "STAT" "Lcom/example/lessor/lessor/protocol/Operation;" (.ref w2)) (hc1 : ¬ (p1 = (0 : Int32))) (hc10 : ¬ (p1 = (1 : Int32))) (hc19 : ¬ (p1 = (2 : Int32))) (hc28 : ¬ (p1 = (3 : Int32))) (hc37 : ¬ (p1 = (4 : Int32))) (hc46 : ¬ (p1 = (5 : Int32))) (hc56 : p1 = (6 : Int32)) :
    MetFree l (⟨"com/example/lessor/lessor/protocol/OperationIsBatchedPinLaw", "pick", "(I)Lcom/example/lessor/lessor/protocol/Operation;"⟩ : MethodName) (head1 (Jvm.Cond.code (⟨"com/example/lessor/lessor/protocol/OperationIsBatchedPinLaw", "pick", "(I)Lcom/example/lessor/lessor/protocol/Operation;"⟩ : MethodName) method_2_code 1 (some (.object "com/example/lessor/lessor/protocol/Operation")) :: ws) ({ frames := 0, cells := 0, slots := 0, locals := 0 } : Room)) (fun a U => a = #[(.int p1)] ∧ Z.Warmed39 U.vm ∧ U.heap = h0) (fun _ _ _ _ _ => True) (fun _ U o U' => ∃ v L, o = .returned v ∧ Q1_ttttttf Z p1 w2 h0 n0 v U'.heap L ∧ FrameEnd U o U' L ({ frames := 0, cells := 0, slots := 0, locals := 0 } : Room).cells ({ frames := 0, cells := 0, slots := 0, locals := 0 } : Room).slots) := by
  refine MetFree.of_bodySF (plainFor_of_name pn_1) hisR ?_
  intro p e s m args below meth c s₁ Bd hml0 hP hK
  obtain ⟨rfl, hZ, hh⟩ := hP
  have hx := Bd.exec
  have hby := Bd.bytes
  have hml : c.maxLocals = 1 := hml0
  have hown : s.vm.findClass "com/example/lessor/lessor/protocol/OperationIsBatchedPinLaw" = some m.cls := findClass_of_methodNamed Bd.named
  have hnm := (name_of_methodNamed Bd.named Bd.method).1
  have X0 : Stand p l e ({ frames := 0, cells := 0, slots := 0, locals := 0 } : Room) s m #[(.int p1)] below meth c s₁ [] 0 0 := Stand.of_body Bd
  have e0 : s₁.heap = h0 := by rw [← hh, Bd.state]; rfl
  have N0 := Fr.nil n0
  have pre0 : ∀ t, Steps p.tables e below (s₁.setTop (mkF m 0 #[.val (.int p1)] [])) t → Steps p.tables e below (s₁.setTop (entryFrame m #[(.int p1)] 1)) t := fun t k => castTop (ef_1 m p1) k
  -- 3. LAWS
  obtain ⟨T3, X3, e3, st3⟩ := getS2 X0 hx hZ hown (host := "") (Or.inl (hw _ (List.mem_of_getElem? (i := 68) rfl))) Via.refl e0 S_STAT (g := (mkF m 59 #[.val (.int p1)] [])) rfl (hb hby d1_59)
  obtain ⟨fs, hr, hrun, hended, hW, hsame⟩ := X3.leave (v := some (.ref w2)) (fun h => by rw [Bd.returns] at h; cases h)
  refine ⟨_, _, pre0 _ ?_, hrun, hended, _, _, rfl, ?_, ⟨_, rfl⟩, hW, hsame.mono (by decide) (by decide)⟩
  -- 4. STEPS
  · show Steps p.tables e below (s₁.setTop (mkF m 0 #[.val (.int p1)] [])) _
    refine XS.iloadN X0.here hx rfl (hb hby d1_0) rfl ?_
    show Steps p.tables e below (s₁.setTop (mkF m 1 #[.val (.int p1)] [(.int p1)])) _
    refine XS.ifYes X0.here hx rfl (pc0 := 1) (pc' := 8) rfl (hb hby d1_1) rfl ((if0 _ _).trans (feq hc1).2) (by decide) (by decide) ?_
    show Steps p.tables e below (s₁.setTop (mkF m 8 #[.val (.int p1)] [])) _
    refine XS.iloadN X0.here hx rfl (hb hby d1_8) rfl ?_
    show Steps p.tables e below (s₁.setTop (mkF m 9 #[.val (.int p1)] [(.int p1)])) _
    refine XS.iconst X0.here hx rfl (hb hby d1_9) ?_
    show Steps p.tables e below (s₁.setTop (mkF m 10 #[.val (.int p1)] [(.int (1 : Int32)), (.int p1)])) _
    refine XS.icmpYes X0.here hx rfl (pc0 := 10) (pc' := 17) rfl (hb hby d1_10) rfl (feq hc10).2 (by decide) (by decide) ?_
    show Steps p.tables e below (s₁.setTop (mkF m 17 #[.val (.int p1)] [])) _
    refine XS.iloadN X0.here hx rfl (hb hby d1_17) rfl ?_
    show Steps p.tables e below (s₁.setTop (mkF m 18 #[.val (.int p1)] [(.int p1)])) _
    refine XS.iconst X0.here hx rfl (hb hby d1_18) ?_
    show Steps p.tables e below (s₁.setTop (mkF m 19 #[.val (.int p1)] [(.int (2 : Int32)), (.int p1)])) _
    refine XS.icmpYes X0.here hx rfl (pc0 := 19) (pc' := 26) rfl (hb hby d1_19) rfl (feq hc19).2 (by decide) (by decide) ?_
    show Steps p.tables e below (s₁.setTop (mkF m 26 #[.val (.int p1)] [])) _
    refine XS.iloadN X0.here hx rfl (hb hby d1_26) rfl ?_
    show Steps p.tables e below (s₁.setTop (mkF m 27 #[.val (.int p1)] [(.int p1)])) _
    refine XS.iconst X0.here hx rfl (hb hby d1_27) ?_
    show Steps p.tables e below (s₁.setTop (mkF m 28 #[.val (.int p1)] [(.int (3 : Int32)), (.int p1)])) _
    refine XS.icmpYes X0.here hx rfl (pc0 := 28) (pc' := 35) rfl (hb hby d1_28) rfl (feq hc28).2 (by decide) (by decide) ?_
    show Steps p.tables e below (s₁.setTop (mkF m 35 #[.val (.int p1)] [])) _
    refine XS.iloadN X0.here hx rfl (hb hby d1_35) rfl ?_
    show Steps p.tables e below (s₁.setTop (mkF m 36 #[.val (.int p1)] [(.int p1)])) _
    refine XS.iconst X0.here hx rfl (hb hby d1_36) ?_
    show Steps p.tables e below (s₁.setTop (mkF m 37 #[.val (.int p1)] [(.int (4 : Int32)), (.int p1)])) _
    refine XS.icmpYes X0.here hx rfl (pc0 := 37) (pc' := 44) rfl (hb hby d1_37) rfl (feq hc37).2 (by decide) (by decide) ?_
    show Steps p.tables e below (s₁.setTop (mkF m 44 #[.val (.int p1)] [])) _
    refine XS.iloadN X0.here hx rfl (hb hby d1_44) rfl ?_
    show Steps p.tables e below (s₁.setTop (mkF m 45 #[.val (.int p1)] [(.int p1)])) _
    refine XS.iconst X0.here hx rfl (hb hby d1_45) ?_
    show Steps p.tables e below (s₁.setTop (mkF m 46 #[.val (.int p1)] [(.int (5 : Int32)), (.int p1)])) _
    refine XS.icmpYes X0.here hx rfl (pc0 := 46) (pc' := 53) rfl (hb hby d1_46) rfl (feq hc46).2 (by decide) (by decide) ?_
    show Steps p.tables e below (s₁.setTop (mkF m 53 #[.val (.int p1)] [])) _
    refine XS.iloadN X0.here hx rfl (hb hby d1_53) rfl ?_
    show Steps p.tables e below (s₁.setTop (mkF m 54 #[.val (.int p1)] [(.int p1)])) _
    refine XS.bipush X0.here hx rfl (hb hby d1_54) ?_
    show Steps p.tables e below (s₁.setTop (mkF m 56 #[.val (.int p1)] [(.int (6 : Int32)), (.int p1)])) _
    refine XS.icmpNo X0.here hx rfl (hb hby d1_56) rfl (teq hc56).2 ?_
    show Steps p.tables e below (s₁.setTop (mkF m 59 #[.val (.int p1)] [])) _
    refine st3 _ ?_
    show Steps p.tables e below (T3.setTop (mkF m 62 #[.val (.int p1)] [(.ref w2)])) _
    jvm_step X3.here [X3.here.top, hx, (hb hby d1_62), X3.method', Bd.returns, Value.isRef, FieldType.isReference]
    first | (intro acts; rw [hr _ acts rfl rfl rfl]) | rw [hr _ _ rfl rfl rfl]
    exact Steps.refl _
  · show Q1_ttttttf Z p1 w2 h0 n0 _ T3.heap _
    rw [e3]
    exact ⟨rfl, N0, rfl⟩
theorem d1_63 : decode method_2_code 63 = .ok (.iload_n 0, 1) := by decide +kernel
theorem d1_64 : decode method_2_code 64 = .ok (.bipush 7, 2) := by decide +kernel
theorem d1_66 : decode method_2_code 66 = .ok (.if_icmp .ne 7, 3) := by decide +kernel
theorem d1_69 : decode method_2_code 69 = .ok (.getstatic 31, 3) := by decide +kernel
theorem d1_72 : decode method_2_code 72 = .ok (.areturn, 1) := by decide +kernel
def Q1_tttttttf (Z : State) (p1 : Int32) (w2 : Addr) (h0 : Heap) (n0 : Nat) (v : Option Value) (h : Heap) (L : List Loc) : Prop := v = some (.ref w2) ∧ Fr n0 L ∧ h = h0
set_option maxRecDepth 65536 in
set_option maxHeartbeats 40000000 in
theorem rm1_tttttttf (l : Launch) (Z : State) (a0 : Array Value) (hw : ∀ d ∈ tables_1, d.before a0 Z = true) (ws : List Jvm.Cond) (p1 : Int32) (w2 : Addr) (h0 : Heap) (n0 : Nat) (Z0 : n0 ≤ h0.size) (S_IMPORT : Sta Z h0 "com/example/lessor/lessor/protocol/Operation" "IMPORT" "Lcom/example/lessor/lessor/protocol/Operation;" (.ref w2)) (hc1 : ¬ (p1 = (0 : Int32))) (hc10 : ¬ (p1 = (1 : Int32))) (hc19 : ¬ (p1 = (2 : Int32))) (hc28 : ¬ (p1 = (3 : Int32))) (hc37 : ¬ (p1 = (4 : Int32))) (hc46 : ¬ (p1 = (5 : Int32))) (hc56 : ¬ (p1 = (6 : Int32))) (hc66 : p1 = (7 : Int32)) :
    MetFree l (⟨"com/example/lessor/lessor/protocol/OperationIsBatchedPinLaw", "pick", "(I)Lcom/example/lessor/lessor/protocol/Operation;"⟩ : MethodName) (head1 (Jvm.Cond.code (⟨"com/example/lessor/lessor/protocol/OperationIsBatchedPinLaw", "pick", "(I)Lcom/example/lessor/lessor/protocol/Operation;"⟩ : MethodName) method_2_code 1 (some (.object "com/example/lessor/lessor/protocol/Operation")) :: ws) ({ frames := 0, cells := 0, slots := 0, locals := 0 } : Room)) (fun a U => a = #[(.int p1)] ∧ Z.Warmed39 U.vm ∧ U.heap = h0) (fun _ _ _ _ _ => True) (fun _ U o U' => ∃ v L, o = .returned v ∧ Q1_tttttttf Z p1 w2 h0 n0 v U'.heap L ∧ FrameEnd U o U' L ({ frames := 0, cells := 0, slots := 0, locals := 0 } : Room).cells ({ frames := 0, cells := 0, slots := 0, locals := 0 } : Room).slots) := by
  refine MetFree.of_bodySF (plainFor_of_name pn_1) hisR ?_
  intro p e s m args below meth c s₁ Bd hml0 hP hK
  obtain ⟨rfl, hZ, hh⟩ := hP
  have hx := Bd.exec
  have hby := Bd.bytes
  have hml : c.maxLocals = 1 := hml0
  have hown : s.vm.findClass "com/example/lessor/lessor/protocol/OperationIsBatchedPinLaw" = some m.cls := findClass_of_methodNamed Bd.named
  have hnm := (name_of_methodNamed Bd.named Bd.method).1
  have X0 : Stand p l e ({ frames := 0, cells := 0, slots := 0, locals := 0 } : Room) s m #[(.int p1)] below meth c s₁ [] 0 0 := Stand.of_body Bd
  have e0 : s₁.heap = h0 := by rw [← hh, Bd.state]; rfl
  have N0 := Fr.nil n0
  have pre0 : ∀ t, Steps p.tables e below (s₁.setTop (mkF m 0 #[.val (.int p1)] [])) t → Steps p.tables e below (s₁.setTop (entryFrame m #[(.int p1)] 1)) t := fun t k => castTop (ef_1 m p1) k
  -- 3. LAWS
  obtain ⟨T3, X3, e3, st3⟩ := getS2 X0 hx hZ hown (host := "") (Or.inl (hw _ (List.mem_of_getElem? (i := 53) rfl))) Via.refl e0 S_IMPORT (g := (mkF m 69 #[.val (.int p1)] [])) rfl (hb hby d1_69)
  obtain ⟨fs, hr, hrun, hended, hW, hsame⟩ := X3.leave (v := some (.ref w2)) (fun h => by rw [Bd.returns] at h; cases h)
  refine ⟨_, _, pre0 _ ?_, hrun, hended, _, _, rfl, ?_, ⟨_, rfl⟩, hW, hsame.mono (by decide) (by decide)⟩
  -- 4. STEPS
  · show Steps p.tables e below (s₁.setTop (mkF m 0 #[.val (.int p1)] [])) _
    refine XS.iloadN X0.here hx rfl (hb hby d1_0) rfl ?_
    show Steps p.tables e below (s₁.setTop (mkF m 1 #[.val (.int p1)] [(.int p1)])) _
    refine XS.ifYes X0.here hx rfl (pc0 := 1) (pc' := 8) rfl (hb hby d1_1) rfl ((if0 _ _).trans (feq hc1).2) (by decide) (by decide) ?_
    show Steps p.tables e below (s₁.setTop (mkF m 8 #[.val (.int p1)] [])) _
    refine XS.iloadN X0.here hx rfl (hb hby d1_8) rfl ?_
    show Steps p.tables e below (s₁.setTop (mkF m 9 #[.val (.int p1)] [(.int p1)])) _
    refine XS.iconst X0.here hx rfl (hb hby d1_9) ?_
    show Steps p.tables e below (s₁.setTop (mkF m 10 #[.val (.int p1)] [(.int (1 : Int32)), (.int p1)])) _
    refine XS.icmpYes X0.here hx rfl (pc0 := 10) (pc' := 17) rfl (hb hby d1_10) rfl (feq hc10).2 (by decide) (by decide) ?_
    show Steps p.tables e below (s₁.setTop (mkF m 17 #[.val (.int p1)] [])) _
    refine XS.iloadN X0.here hx rfl (hb hby d1_17) rfl ?_
    show Steps p.tables e below (s₁.setTop (mkF m 18 #[.val (.int p1)] [(.int p1)])) _
    refine XS.iconst X0.here hx rfl (hb hby d1_18) ?_
    show Steps p.tables e below (s₁.setTop (mkF m 19 #[.val (.int p1)] [(.int (2 : Int32)), (.int p1)])) _
    refine XS.icmpYes X0.here hx rfl (pc0 := 19) (pc' := 26) rfl (hb hby d1_19) rfl (feq hc19).2 (by decide) (by decide) ?_
    show Steps p.tables e below (s₁.setTop (mkF m 26 #[.val (.int p1)] [])) _
    refine XS.iloadN X0.here hx rfl (hb hby d1_26) rfl ?_
    show Steps p.tables e below (s₁.setTop (mkF m 27 #[.val (.int p1)] [(.int p1)])) _
    refine XS.iconst X0.here hx rfl (hb hby d1_27) ?_
    show Steps p.tables e below (s₁.setTop (mkF m 28 #[.val (.int p1)] [(.int (3 : Int32)), (.int p1)])) _
    refine XS.icmpYes X0.here hx rfl (pc0 := 28) (pc' := 35) rfl (hb hby d1_28) rfl (feq hc28).2 (by decide) (by decide) ?_
    show Steps p.tables e below (s₁.setTop (mkF m 35 #[.val (.int p1)] [])) _
    refine XS.iloadN X0.here hx rfl (hb hby d1_35) rfl ?_
    show Steps p.tables e below (s₁.setTop (mkF m 36 #[.val (.int p1)] [(.int p1)])) _
    refine XS.iconst X0.here hx rfl (hb hby d1_36) ?_
    show Steps p.tables e below (s₁.setTop (mkF m 37 #[.val (.int p1)] [(.int (4 : Int32)), (.int p1)])) _
    refine XS.icmpYes X0.here hx rfl (pc0 := 37) (pc' := 44) rfl (hb hby d1_37) rfl (feq hc37).2 (by decide) (by decide) ?_
    show Steps p.tables e below (s₁.setTop (mkF m 44 #[.val (.int p1)] [])) _
    refine XS.iloadN X0.here hx rfl (hb hby d1_44) rfl ?_
    show Steps p.tables e below (s₁.setTop (mkF m 45 #[.val (.int p1)] [(.int p1)])) _
    refine XS.iconst X0.here hx rfl (hb hby d1_45) ?_
    show Steps p.tables e below (s₁.setTop (mkF m 46 #[.val (.int p1)] [(.int (5 : Int32)), (.int p1)])) _
    refine XS.icmpYes X0.here hx rfl (pc0 := 46) (pc' := 53) rfl (hb hby d1_46) rfl (feq hc46).2 (by decide) (by decide) ?_
    show Steps p.tables e below (s₁.setTop (mkF m 53 #[.val (.int p1)] [])) _
    refine XS.iloadN X0.here hx rfl (hb hby d1_53) rfl ?_
    show Steps p.tables e below (s₁.setTop (mkF m 54 #[.val (.int p1)] [(.int p1)])) _
    refine XS.bipush X0.here hx rfl (hb hby d1_54) ?_
    show Steps p.tables e below (s₁.setTop (mkF m 56 #[.val (.int p1)] [(.int (6 : Int32)), (.int p1)])) _
    refine XS.icmpYes X0.here hx rfl (pc0 := 56) (pc' := 63) rfl (hb hby d1_56) rfl (feq hc56).2 (by decide) (by decide) ?_
    show Steps p.tables e below (s₁.setTop (mkF m 63 #[.val (.int p1)] [])) _
    refine XS.iloadN X0.here hx rfl (hb hby d1_63) rfl ?_
    show Steps p.tables e below (s₁.setTop (mkF m 64 #[.val (.int p1)] [(.int p1)])) _
    refine XS.bipush X0.here hx rfl (hb hby d1_64) ?_
    show Steps p.tables e below (s₁.setTop (mkF m 66 #[.val (.int p1)] [(.int (7 : Int32)), (.int p1)])) _
    refine XS.icmpNo X0.here hx rfl (hb hby d1_66) rfl (teq hc66).2 ?_
    show Steps p.tables e below (s₁.setTop (mkF m 69 #[.val (.int p1)] [])) _
    refine st3 _ ?_
    show Steps p.tables e below (T3.setTop (mkF m 72 #[.val (.int p1)] [(.ref w2)])) _
    jvm_step X3.here [X3.here.top, hx, (hb hby d1_72), X3.method', Bd.returns, Value.isRef, FieldType.isReference]
    first | (intro acts; rw [hr _ acts rfl rfl rfl]) | rw [hr _ _ rfl rfl rfl]
    exact Steps.refl _
  · show Q1_tttttttf Z p1 w2 h0 n0 _ T3.heap _
    rw [e3]
    exact ⟨rfl, N0, rfl⟩
theorem d1_73 : decode method_2_code 73 = .ok (.iload_n 0, 1) := by decide +kernel
theorem d1_74 : decode method_2_code 74 = .ok (.bipush 8, 2) := by decide +kernel
theorem d1_76 : decode method_2_code 76 = .ok (.if_icmp .ne 7, 3) := by decide +kernel
theorem d1_79 : decode method_2_code 79 = .ok (.getstatic 34, 3) := by decide +kernel
theorem d1_82 : decode method_2_code 82 = .ok (.areturn, 1) := by decide +kernel
def Q1_ttttttttf (Z : State) (p1 : Int32) (w2 : Addr) (h0 : Heap) (n0 : Nat) (v : Option Value) (h : Heap) (L : List Loc) : Prop := v = some (.ref w2) ∧ Fr n0 L ∧ h = h0
set_option maxRecDepth 65536 in
set_option maxHeartbeats 40000000 in
theorem rm1_ttttttttf (l : Launch) (Z : State) (a0 : Array Value) (hw : ∀ d ∈ tables_1, d.before a0 Z = true) (ws : List Jvm.Cond) (p1 : Int32) (w2 : Addr) (h0 : Heap) (n0 : Nat) (Z0 : n0 ≤ h0.size) (S_STATS : Sta Z h0 "com/example/lessor/lessor/protocol/Operation" "STATS" "Lcom/example/lessor/lessor/protocol/Operation;" (.ref w2)) (hc1 : ¬ (p1 = (0 : Int32))) (hc10 : ¬ (p1 = (1 : Int32))) (hc19 : ¬ (p1 = (2 : Int32))) (hc28 : ¬ (p1 = (3 : Int32))) (hc37 : ¬ (p1 = (4 : Int32))) (hc46 : ¬ (p1 = (5 : Int32))) (hc56 : ¬ (p1 = (6 : Int32))) (hc66 : ¬ (p1 = (7 : Int32))) (hc76 : p1 = (8 : Int32)) :
    MetFree l (⟨"com/example/lessor/lessor/protocol/OperationIsBatchedPinLaw", "pick", "(I)Lcom/example/lessor/lessor/protocol/Operation;"⟩ : MethodName) (head1 (Jvm.Cond.code (⟨"com/example/lessor/lessor/protocol/OperationIsBatchedPinLaw", "pick", "(I)Lcom/example/lessor/lessor/protocol/Operation;"⟩ : MethodName) method_2_code 1 (some (.object "com/example/lessor/lessor/protocol/Operation")) :: ws) ({ frames := 0, cells := 0, slots := 0, locals := 0 } : Room)) (fun a U => a = #[(.int p1)] ∧ Z.Warmed39 U.vm ∧ U.heap = h0) (fun _ _ _ _ _ => True) (fun _ U o U' => ∃ v L, o = .returned v ∧ Q1_ttttttttf Z p1 w2 h0 n0 v U'.heap L ∧ FrameEnd U o U' L ({ frames := 0, cells := 0, slots := 0, locals := 0 } : Room).cells ({ frames := 0, cells := 0, slots := 0, locals := 0 } : Room).slots) := by
  refine MetFree.of_bodySF (plainFor_of_name pn_1) hisR ?_
  intro p e s m args below meth c s₁ Bd hml0 hP hK
  obtain ⟨rfl, hZ, hh⟩ := hP
  have hx := Bd.exec
  have hby := Bd.bytes
  have hml : c.maxLocals = 1 := hml0
  have hown : s.vm.findClass "com/example/lessor/lessor/protocol/OperationIsBatchedPinLaw" = some m.cls := findClass_of_methodNamed Bd.named
  have hnm := (name_of_methodNamed Bd.named Bd.method).1
  have X0 : Stand p l e ({ frames := 0, cells := 0, slots := 0, locals := 0 } : Room) s m #[(.int p1)] below meth c s₁ [] 0 0 := Stand.of_body Bd
  have e0 : s₁.heap = h0 := by rw [← hh, Bd.state]; rfl
  have N0 := Fr.nil n0
  have pre0 : ∀ t, Steps p.tables e below (s₁.setTop (mkF m 0 #[.val (.int p1)] [])) t → Steps p.tables e below (s₁.setTop (entryFrame m #[(.int p1)] 1)) t := fun t k => castTop (ef_1 m p1) k
  -- 3. LAWS
  obtain ⟨T3, X3, e3, st3⟩ := getS2 X0 hx hZ hown (host := "") (Or.inl (hw _ (List.mem_of_getElem? (i := 60) rfl))) Via.refl e0 S_STATS (g := (mkF m 79 #[.val (.int p1)] [])) rfl (hb hby d1_79)
  obtain ⟨fs, hr, hrun, hended, hW, hsame⟩ := X3.leave (v := some (.ref w2)) (fun h => by rw [Bd.returns] at h; cases h)
  refine ⟨_, _, pre0 _ ?_, hrun, hended, _, _, rfl, ?_, ⟨_, rfl⟩, hW, hsame.mono (by decide) (by decide)⟩
  -- 4. STEPS
  · show Steps p.tables e below (s₁.setTop (mkF m 0 #[.val (.int p1)] [])) _
    refine XS.iloadN X0.here hx rfl (hb hby d1_0) rfl ?_
    show Steps p.tables e below (s₁.setTop (mkF m 1 #[.val (.int p1)] [(.int p1)])) _
    refine XS.ifYes X0.here hx rfl (pc0 := 1) (pc' := 8) rfl (hb hby d1_1) rfl ((if0 _ _).trans (feq hc1).2) (by decide) (by decide) ?_
    show Steps p.tables e below (s₁.setTop (mkF m 8 #[.val (.int p1)] [])) _
    refine XS.iloadN X0.here hx rfl (hb hby d1_8) rfl ?_
    show Steps p.tables e below (s₁.setTop (mkF m 9 #[.val (.int p1)] [(.int p1)])) _
    refine XS.iconst X0.here hx rfl (hb hby d1_9) ?_
    show Steps p.tables e below (s₁.setTop (mkF m 10 #[.val (.int p1)] [(.int (1 : Int32)), (.int p1)])) _
    refine XS.icmpYes X0.here hx rfl (pc0 := 10) (pc' := 17) rfl (hb hby d1_10) rfl (feq hc10).2 (by decide) (by decide) ?_
    show Steps p.tables e below (s₁.setTop (mkF m 17 #[.val (.int p1)] [])) _
    refine XS.iloadN X0.here hx rfl (hb hby d1_17) rfl ?_
    show Steps p.tables e below (s₁.setTop (mkF m 18 #[.val (.int p1)] [(.int p1)])) _
    refine XS.iconst X0.here hx rfl (hb hby d1_18) ?_
    show Steps p.tables e below (s₁.setTop (mkF m 19 #[.val (.int p1)] [(.int (2 : Int32)), (.int p1)])) _
    refine XS.icmpYes X0.here hx rfl (pc0 := 19) (pc' := 26) rfl (hb hby d1_19) rfl (feq hc19).2 (by decide) (by decide) ?_
    show Steps p.tables e below (s₁.setTop (mkF m 26 #[.val (.int p1)] [])) _
    refine XS.iloadN X0.here hx rfl (hb hby d1_26) rfl ?_
    show Steps p.tables e below (s₁.setTop (mkF m 27 #[.val (.int p1)] [(.int p1)])) _
    refine XS.iconst X0.here hx rfl (hb hby d1_27) ?_
    show Steps p.tables e below (s₁.setTop (mkF m 28 #[.val (.int p1)] [(.int (3 : Int32)), (.int p1)])) _
    refine XS.icmpYes X0.here hx rfl (pc0 := 28) (pc' := 35) rfl (hb hby d1_28) rfl (feq hc28).2 (by decide) (by decide) ?_
    show Steps p.tables e below (s₁.setTop (mkF m 35 #[.val (.int p1)] [])) _
    refine XS.iloadN X0.here hx rfl (hb hby d1_35) rfl ?_
    show Steps p.tables e below (s₁.setTop (mkF m 36 #[.val (.int p1)] [(.int p1)])) _
    refine XS.iconst X0.here hx rfl (hb hby d1_36) ?_
    show Steps p.tables e below (s₁.setTop (mkF m 37 #[.val (.int p1)] [(.int (4 : Int32)), (.int p1)])) _
    refine XS.icmpYes X0.here hx rfl (pc0 := 37) (pc' := 44) rfl (hb hby d1_37) rfl (feq hc37).2 (by decide) (by decide) ?_
    show Steps p.tables e below (s₁.setTop (mkF m 44 #[.val (.int p1)] [])) _
    refine XS.iloadN X0.here hx rfl (hb hby d1_44) rfl ?_
    show Steps p.tables e below (s₁.setTop (mkF m 45 #[.val (.int p1)] [(.int p1)])) _
    refine XS.iconst X0.here hx rfl (hb hby d1_45) ?_
    show Steps p.tables e below (s₁.setTop (mkF m 46 #[.val (.int p1)] [(.int (5 : Int32)), (.int p1)])) _
    refine XS.icmpYes X0.here hx rfl (pc0 := 46) (pc' := 53) rfl (hb hby d1_46) rfl (feq hc46).2 (by decide) (by decide) ?_
    show Steps p.tables e below (s₁.setTop (mkF m 53 #[.val (.int p1)] [])) _
    refine XS.iloadN X0.here hx rfl (hb hby d1_53) rfl ?_
    show Steps p.tables e below (s₁.setTop (mkF m 54 #[.val (.int p1)] [(.int p1)])) _
    refine XS.bipush X0.here hx rfl (hb hby d1_54) ?_
    show Steps p.tables e below (s₁.setTop (mkF m 56 #[.val (.int p1)] [(.int (6 : Int32)), (.int p1)])) _
    refine XS.icmpYes X0.here hx rfl (pc0 := 56) (pc' := 63) rfl (hb hby d1_56) rfl (feq hc56).2 (by decide) (by decide) ?_
    show Steps p.tables e below (s₁.setTop (mkF m 63 #[.val (.int p1)] [])) _
    refine XS.iloadN X0.here hx rfl (hb hby d1_63) rfl ?_
    show Steps p.tables e below (s₁.setTop (mkF m 64 #[.val (.int p1)] [(.int p1)])) _
    refine XS.bipush X0.here hx rfl (hb hby d1_64) ?_
    show Steps p.tables e below (s₁.setTop (mkF m 66 #[.val (.int p1)] [(.int (7 : Int32)), (.int p1)])) _
    refine XS.icmpYes X0.here hx rfl (pc0 := 66) (pc' := 73) rfl (hb hby d1_66) rfl (feq hc66).2 (by decide) (by decide) ?_
    show Steps p.tables e below (s₁.setTop (mkF m 73 #[.val (.int p1)] [])) _
    refine XS.iloadN X0.here hx rfl (hb hby d1_73) rfl ?_
    show Steps p.tables e below (s₁.setTop (mkF m 74 #[.val (.int p1)] [(.int p1)])) _
    refine XS.bipush X0.here hx rfl (hb hby d1_74) ?_
    show Steps p.tables e below (s₁.setTop (mkF m 76 #[.val (.int p1)] [(.int (8 : Int32)), (.int p1)])) _
    refine XS.icmpNo X0.here hx rfl (hb hby d1_76) rfl (teq hc76).2 ?_
    show Steps p.tables e below (s₁.setTop (mkF m 79 #[.val (.int p1)] [])) _
    refine st3 _ ?_
    show Steps p.tables e below (T3.setTop (mkF m 82 #[.val (.int p1)] [(.ref w2)])) _
    jvm_step X3.here [X3.here.top, hx, (hb hby d1_82), X3.method', Bd.returns, Value.isRef, FieldType.isReference]
    first | (intro acts; rw [hr _ acts rfl rfl rfl]) | rw [hr _ _ rfl rfl rfl]
    exact Steps.refl _
  · show Q1_ttttttttf Z p1 w2 h0 n0 _ T3.heap _
    rw [e3]
    exact ⟨rfl, N0, rfl⟩
theorem d1_83 : decode method_2_code 83 = .ok (.iload_n 0, 1) := by decide +kernel
theorem d1_84 : decode method_2_code 84 = .ok (.bipush 9, 2) := by decide +kernel
theorem d1_86 : decode method_2_code 86 = .ok (.if_icmp .ne 7, 3) := by decide +kernel
theorem d1_89 : decode method_2_code 89 = .ok (.getstatic 37, 3) := by decide +kernel
theorem d1_92 : decode method_2_code 92 = .ok (.areturn, 1) := by decide +kernel
def Q1_tttttttttf (Z : State) (p1 : Int32) (w2 : Addr) (h0 : Heap) (n0 : Nat) (v : Option Value) (h : Heap) (L : List Loc) : Prop := v = some (.ref w2) ∧ Fr n0 L ∧ h = h0
set_option maxRecDepth 65536 in
set_option maxHeartbeats 40000000 in
theorem rm1_tttttttttf (l : Launch) (Z : State) (a0 : Array Value) (hw : ∀ d ∈ tables_1, d.before a0 Z = true) (ws : List Jvm.Cond) (p1 : Int32) (w2 : Addr) (h0 : Heap) (n0 : Nat) (Z0 : n0 ≤ h0.size) (S_RENEW : Sta Z h0 "com/example/lessor/lessor/protocol/Operation" "RENEW" "Lcom/example/lessor/lessor/protocol/Operation;" (.ref w2)) (hc1 : ¬ (p1 = (0 : Int32))) (hc10 : ¬ (p1 = (1 : Int32))) (hc19 : ¬ (p1 = (2 : Int32))) (hc28 : ¬ (p1 = (3 : Int32))) (hc37 : ¬ (p1 = (4 : Int32))) (hc46 : ¬ (p1 = (5 : Int32))) (hc56 : ¬ (p1 = (6 : Int32))) (hc66 : ¬ (p1 = (7 : Int32))) (hc76 : ¬ (p1 = (8 : Int32))) (hc86 : p1 = (9 : Int32)) :
    MetFree l (⟨"com/example/lessor/lessor/protocol/OperationIsBatchedPinLaw", "pick", "(I)Lcom/example/lessor/lessor/protocol/Operation;"⟩ : MethodName) (head1 (Jvm.Cond.code (⟨"com/example/lessor/lessor/protocol/OperationIsBatchedPinLaw", "pick", "(I)Lcom/example/lessor/lessor/protocol/Operation;"⟩ : MethodName) method_2_code 1 (some (.object "com/example/lessor/lessor/protocol/Operation")) :: ws) ({ frames := 0, cells := 0, slots := 0, locals := 0 } : Room)) (fun a U => a = #[(.int p1)] ∧ Z.Warmed39 U.vm ∧ U.heap = h0) (fun _ _ _ _ _ => True) (fun _ U o U' => ∃ v L, o = .returned v ∧ Q1_tttttttttf Z p1 w2 h0 n0 v U'.heap L ∧ FrameEnd U o U' L ({ frames := 0, cells := 0, slots := 0, locals := 0 } : Room).cells ({ frames := 0, cells := 0, slots := 0, locals := 0 } : Room).slots) := by
  refine MetFree.of_bodySF (plainFor_of_name pn_1) hisR ?_
  intro p e s m args below meth c s₁ Bd hml0 hP hK
  obtain ⟨rfl, hZ, hh⟩ := hP
  have hx := Bd.exec
  have hby := Bd.bytes
  have hml : c.maxLocals = 1 := hml0
  have hown : s.vm.findClass "com/example/lessor/lessor/protocol/OperationIsBatchedPinLaw" = some m.cls := findClass_of_methodNamed Bd.named
  have hnm := (name_of_methodNamed Bd.named Bd.method).1
  have X0 : Stand p l e ({ frames := 0, cells := 0, slots := 0, locals := 0 } : Room) s m #[(.int p1)] below meth c s₁ [] 0 0 := Stand.of_body Bd
  have e0 : s₁.heap = h0 := by rw [← hh, Bd.state]; rfl
  have N0 := Fr.nil n0
  have pre0 : ∀ t, Steps p.tables e below (s₁.setTop (mkF m 0 #[.val (.int p1)] [])) t → Steps p.tables e below (s₁.setTop (entryFrame m #[(.int p1)] 1)) t := fun t k => castTop (ef_1 m p1) k
  -- 3. LAWS
  obtain ⟨T3, X3, e3, st3⟩ := getS2 X0 hx hZ hown (host := "") (Or.inl (hw _ (List.mem_of_getElem? (i := 63) rfl))) Via.refl e0 S_RENEW (g := (mkF m 89 #[.val (.int p1)] [])) rfl (hb hby d1_89)
  obtain ⟨fs, hr, hrun, hended, hW, hsame⟩ := X3.leave (v := some (.ref w2)) (fun h => by rw [Bd.returns] at h; cases h)
  refine ⟨_, _, pre0 _ ?_, hrun, hended, _, _, rfl, ?_, ⟨_, rfl⟩, hW, hsame.mono (by decide) (by decide)⟩
  -- 4. STEPS
  · show Steps p.tables e below (s₁.setTop (mkF m 0 #[.val (.int p1)] [])) _
    refine XS.iloadN X0.here hx rfl (hb hby d1_0) rfl ?_
    show Steps p.tables e below (s₁.setTop (mkF m 1 #[.val (.int p1)] [(.int p1)])) _
    refine XS.ifYes X0.here hx rfl (pc0 := 1) (pc' := 8) rfl (hb hby d1_1) rfl ((if0 _ _).trans (feq hc1).2) (by decide) (by decide) ?_
    show Steps p.tables e below (s₁.setTop (mkF m 8 #[.val (.int p1)] [])) _
    refine XS.iloadN X0.here hx rfl (hb hby d1_8) rfl ?_
    show Steps p.tables e below (s₁.setTop (mkF m 9 #[.val (.int p1)] [(.int p1)])) _
    refine XS.iconst X0.here hx rfl (hb hby d1_9) ?_
    show Steps p.tables e below (s₁.setTop (mkF m 10 #[.val (.int p1)] [(.int (1 : Int32)), (.int p1)])) _
    refine XS.icmpYes X0.here hx rfl (pc0 := 10) (pc' := 17) rfl (hb hby d1_10) rfl (feq hc10).2 (by decide) (by decide) ?_
    show Steps p.tables e below (s₁.setTop (mkF m 17 #[.val (.int p1)] [])) _
    refine XS.iloadN X0.here hx rfl (hb hby d1_17) rfl ?_
    show Steps p.tables e below (s₁.setTop (mkF m 18 #[.val (.int p1)] [(.int p1)])) _
    refine XS.iconst X0.here hx rfl (hb hby d1_18) ?_
    show Steps p.tables e below (s₁.setTop (mkF m 19 #[.val (.int p1)] [(.int (2 : Int32)), (.int p1)])) _
    refine XS.icmpYes X0.here hx rfl (pc0 := 19) (pc' := 26) rfl (hb hby d1_19) rfl (feq hc19).2 (by decide) (by decide) ?_
    show Steps p.tables e below (s₁.setTop (mkF m 26 #[.val (.int p1)] [])) _
    refine XS.iloadN X0.here hx rfl (hb hby d1_26) rfl ?_
    show Steps p.tables e below (s₁.setTop (mkF m 27 #[.val (.int p1)] [(.int p1)])) _
    refine XS.iconst X0.here hx rfl (hb hby d1_27) ?_
    show Steps p.tables e below (s₁.setTop (mkF m 28 #[.val (.int p1)] [(.int (3 : Int32)), (.int p1)])) _
    refine XS.icmpYes X0.here hx rfl (pc0 := 28) (pc' := 35) rfl (hb hby d1_28) rfl (feq hc28).2 (by decide) (by decide) ?_
    show Steps p.tables e below (s₁.setTop (mkF m 35 #[.val (.int p1)] [])) _
    refine XS.iloadN X0.here hx rfl (hb hby d1_35) rfl ?_
    show Steps p.tables e below (s₁.setTop (mkF m 36 #[.val (.int p1)] [(.int p1)])) _
    refine XS.iconst X0.here hx rfl (hb hby d1_36) ?_
    show Steps p.tables e below (s₁.setTop (mkF m 37 #[.val (.int p1)] [(.int (4 : Int32)), (.int p1)])) _
    refine XS.icmpYes X0.here hx rfl (pc0 := 37) (pc' := 44) rfl (hb hby d1_37) rfl (feq hc37).2 (by decide) (by decide) ?_
    show Steps p.tables e below (s₁.setTop (mkF m 44 #[.val (.int p1)] [])) _
    refine XS.iloadN X0.here hx rfl (hb hby d1_44) rfl ?_
    show Steps p.tables e below (s₁.setTop (mkF m 45 #[.val (.int p1)] [(.int p1)])) _
    refine XS.iconst X0.here hx rfl (hb hby d1_45) ?_
    show Steps p.tables e below (s₁.setTop (mkF m 46 #[.val (.int p1)] [(.int (5 : Int32)), (.int p1)])) _
    refine XS.icmpYes X0.here hx rfl (pc0 := 46) (pc' := 53) rfl (hb hby d1_46) rfl (feq hc46).2 (by decide) (by decide) ?_
    show Steps p.tables e below (s₁.setTop (mkF m 53 #[.val (.int p1)] [])) _
    refine XS.iloadN X0.here hx rfl (hb hby d1_53) rfl ?_
    show Steps p.tables e below (s₁.setTop (mkF m 54 #[.val (.int p1)] [(.int p1)])) _
    refine XS.bipush X0.here hx rfl (hb hby d1_54) ?_
    show Steps p.tables e below (s₁.setTop (mkF m 56 #[.val (.int p1)] [(.int (6 : Int32)), (.int p1)])) _
    refine XS.icmpYes X0.here hx rfl (pc0 := 56) (pc' := 63) rfl (hb hby d1_56) rfl (feq hc56).2 (by decide) (by decide) ?_
    show Steps p.tables e below (s₁.setTop (mkF m 63 #[.val (.int p1)] [])) _
    refine XS.iloadN X0.here hx rfl (hb hby d1_63) rfl ?_
    show Steps p.tables e below (s₁.setTop (mkF m 64 #[.val (.int p1)] [(.int p1)])) _
    refine XS.bipush X0.here hx rfl (hb hby d1_64) ?_
    show Steps p.tables e below (s₁.setTop (mkF m 66 #[.val (.int p1)] [(.int (7 : Int32)), (.int p1)])) _
    refine XS.icmpYes X0.here hx rfl (pc0 := 66) (pc' := 73) rfl (hb hby d1_66) rfl (feq hc66).2 (by decide) (by decide) ?_
    show Steps p.tables e below (s₁.setTop (mkF m 73 #[.val (.int p1)] [])) _
    refine XS.iloadN X0.here hx rfl (hb hby d1_73) rfl ?_
    show Steps p.tables e below (s₁.setTop (mkF m 74 #[.val (.int p1)] [(.int p1)])) _
    refine XS.bipush X0.here hx rfl (hb hby d1_74) ?_
    show Steps p.tables e below (s₁.setTop (mkF m 76 #[.val (.int p1)] [(.int (8 : Int32)), (.int p1)])) _
    refine XS.icmpYes X0.here hx rfl (pc0 := 76) (pc' := 83) rfl (hb hby d1_76) rfl (feq hc76).2 (by decide) (by decide) ?_
    show Steps p.tables e below (s₁.setTop (mkF m 83 #[.val (.int p1)] [])) _
    refine XS.iloadN X0.here hx rfl (hb hby d1_83) rfl ?_
    show Steps p.tables e below (s₁.setTop (mkF m 84 #[.val (.int p1)] [(.int p1)])) _
    refine XS.bipush X0.here hx rfl (hb hby d1_84) ?_
    show Steps p.tables e below (s₁.setTop (mkF m 86 #[.val (.int p1)] [(.int (9 : Int32)), (.int p1)])) _
    refine XS.icmpNo X0.here hx rfl (hb hby d1_86) rfl (teq hc86).2 ?_
    show Steps p.tables e below (s₁.setTop (mkF m 89 #[.val (.int p1)] [])) _
    refine st3 _ ?_
    show Steps p.tables e below (T3.setTop (mkF m 92 #[.val (.int p1)] [(.ref w2)])) _
    jvm_step X3.here [X3.here.top, hx, (hb hby d1_92), X3.method', Bd.returns, Value.isRef, FieldType.isReference]
    first | (intro acts; rw [hr _ acts rfl rfl rfl]) | rw [hr _ _ rfl rfl rfl]
    exact Steps.refl _
  · show Q1_tttttttttf Z p1 w2 h0 n0 _ T3.heap _
    rw [e3]
    exact ⟨rfl, N0, rfl⟩
theorem d1_93 : decode method_2_code 93 = .ok (.iload_n 0, 1) := by decide +kernel
theorem d1_94 : decode method_2_code 94 = .ok (.bipush 10, 2) := by decide +kernel
theorem d1_96 : decode method_2_code 96 = .ok (.if_icmp .ne 7, 3) := by decide +kernel
theorem d1_99 : decode method_2_code 99 = .ok (.getstatic 40, 3) := by decide +kernel
theorem d1_102 : decode method_2_code 102 = .ok (.areturn, 1) := by decide +kernel
def Q1_ttttttttttf (Z : State) (p1 : Int32) (w2 : Addr) (h0 : Heap) (n0 : Nat) (v : Option Value) (h : Heap) (L : List Loc) : Prop := v = some (.ref w2) ∧ Fr n0 L ∧ h = h0
set_option maxRecDepth 65536 in
set_option maxHeartbeats 40000000 in
theorem rm1_ttttttttttf (l : Launch) (Z : State) (a0 : Array Value) (hw : ∀ d ∈ tables_1, d.before a0 Z = true) (ws : List Jvm.Cond) (p1 : Int32) (w2 : Addr) (h0 : Heap) (n0 : Nat) (Z0 : n0 ≤ h0.size) (S_RELEASE : Sta Z h0 "com/example/lessor/lessor/protocol/Operation" "RELEASE" "Lcom/example/lessor/lessor/protocol/Operation;" (.ref w2)) (hc1 : ¬ (p1 = (0 : Int32))) (hc10 : ¬ (p1 = (1 : Int32))) (hc19 : ¬ (p1 = (2 : Int32))) (hc28 : ¬ (p1 = (3 : Int32))) (hc37 : ¬ (p1 = (4 : Int32))) (hc46 : ¬ (p1 = (5 : Int32))) (hc56 : ¬ (p1 = (6 : Int32))) (hc66 : ¬ (p1 = (7 : Int32))) (hc76 : ¬ (p1 = (8 : Int32))) (hc86 : ¬ (p1 = (9 : Int32))) (hc96 : p1 = (10 : Int32)) :
    MetFree l (⟨"com/example/lessor/lessor/protocol/OperationIsBatchedPinLaw", "pick", "(I)Lcom/example/lessor/lessor/protocol/Operation;"⟩ : MethodName) (head1 (Jvm.Cond.code (⟨"com/example/lessor/lessor/protocol/OperationIsBatchedPinLaw", "pick", "(I)Lcom/example/lessor/lessor/protocol/Operation;"⟩ : MethodName) method_2_code 1 (some (.object "com/example/lessor/lessor/protocol/Operation")) :: ws) ({ frames := 0, cells := 0, slots := 0, locals := 0 } : Room)) (fun a U => a = #[(.int p1)] ∧ Z.Warmed39 U.vm ∧ U.heap = h0) (fun _ _ _ _ _ => True) (fun _ U o U' => ∃ v L, o = .returned v ∧ Q1_ttttttttttf Z p1 w2 h0 n0 v U'.heap L ∧ FrameEnd U o U' L ({ frames := 0, cells := 0, slots := 0, locals := 0 } : Room).cells ({ frames := 0, cells := 0, slots := 0, locals := 0 } : Room).slots) := by
  refine MetFree.of_bodySF (plainFor_of_name pn_1) hisR ?_
  intro p e s m args below meth c s₁ Bd hml0 hP hK
  obtain ⟨rfl, hZ, hh⟩ := hP
  have hx := Bd.exec
  have hby := Bd.bytes
  have hml : c.maxLocals = 1 := hml0
  have hown : s.vm.findClass "com/example/lessor/lessor/protocol/OperationIsBatchedPinLaw" = some m.cls := findClass_of_methodNamed Bd.named
  have hnm := (name_of_methodNamed Bd.named Bd.method).1
  have X0 : Stand p l e ({ frames := 0, cells := 0, slots := 0, locals := 0 } : Room) s m #[(.int p1)] below meth c s₁ [] 0 0 := Stand.of_body Bd
  have e0 : s₁.heap = h0 := by rw [← hh, Bd.state]; rfl
  have N0 := Fr.nil n0
  have pre0 : ∀ t, Steps p.tables e below (s₁.setTop (mkF m 0 #[.val (.int p1)] [])) t → Steps p.tables e below (s₁.setTop (entryFrame m #[(.int p1)] 1)) t := fun t k => castTop (ef_1 m p1) k
  -- 3. LAWS
  obtain ⟨T3, X3, e3, st3⟩ := getS2 X0 hx hZ hown (host := "") (Or.inl (hw _ (List.mem_of_getElem? (i := 58) rfl))) Via.refl e0 S_RELEASE (g := (mkF m 99 #[.val (.int p1)] [])) rfl (hb hby d1_99)
  obtain ⟨fs, hr, hrun, hended, hW, hsame⟩ := X3.leave (v := some (.ref w2)) (fun h => by rw [Bd.returns] at h; cases h)
  refine ⟨_, _, pre0 _ ?_, hrun, hended, _, _, rfl, ?_, ⟨_, rfl⟩, hW, hsame.mono (by decide) (by decide)⟩
  -- 4. STEPS
  · show Steps p.tables e below (s₁.setTop (mkF m 0 #[.val (.int p1)] [])) _
    refine XS.iloadN X0.here hx rfl (hb hby d1_0) rfl ?_
    show Steps p.tables e below (s₁.setTop (mkF m 1 #[.val (.int p1)] [(.int p1)])) _
    refine XS.ifYes X0.here hx rfl (pc0 := 1) (pc' := 8) rfl (hb hby d1_1) rfl ((if0 _ _).trans (feq hc1).2) (by decide) (by decide) ?_
    show Steps p.tables e below (s₁.setTop (mkF m 8 #[.val (.int p1)] [])) _
    refine XS.iloadN X0.here hx rfl (hb hby d1_8) rfl ?_
    show Steps p.tables e below (s₁.setTop (mkF m 9 #[.val (.int p1)] [(.int p1)])) _
    refine XS.iconst X0.here hx rfl (hb hby d1_9) ?_
    show Steps p.tables e below (s₁.setTop (mkF m 10 #[.val (.int p1)] [(.int (1 : Int32)), (.int p1)])) _
    refine XS.icmpYes X0.here hx rfl (pc0 := 10) (pc' := 17) rfl (hb hby d1_10) rfl (feq hc10).2 (by decide) (by decide) ?_
    show Steps p.tables e below (s₁.setTop (mkF m 17 #[.val (.int p1)] [])) _
    refine XS.iloadN X0.here hx rfl (hb hby d1_17) rfl ?_
    show Steps p.tables e below (s₁.setTop (mkF m 18 #[.val (.int p1)] [(.int p1)])) _
    refine XS.iconst X0.here hx rfl (hb hby d1_18) ?_
    show Steps p.tables e below (s₁.setTop (mkF m 19 #[.val (.int p1)] [(.int (2 : Int32)), (.int p1)])) _
    refine XS.icmpYes X0.here hx rfl (pc0 := 19) (pc' := 26) rfl (hb hby d1_19) rfl (feq hc19).2 (by decide) (by decide) ?_
    show Steps p.tables e below (s₁.setTop (mkF m 26 #[.val (.int p1)] [])) _
    refine XS.iloadN X0.here hx rfl (hb hby d1_26) rfl ?_
    show Steps p.tables e below (s₁.setTop (mkF m 27 #[.val (.int p1)] [(.int p1)])) _
    refine XS.iconst X0.here hx rfl (hb hby d1_27) ?_
    show Steps p.tables e below (s₁.setTop (mkF m 28 #[.val (.int p1)] [(.int (3 : Int32)), (.int p1)])) _
    refine XS.icmpYes X0.here hx rfl (pc0 := 28) (pc' := 35) rfl (hb hby d1_28) rfl (feq hc28).2 (by decide) (by decide) ?_
    show Steps p.tables e below (s₁.setTop (mkF m 35 #[.val (.int p1)] [])) _
    refine XS.iloadN X0.here hx rfl (hb hby d1_35) rfl ?_
    show Steps p.tables e below (s₁.setTop (mkF m 36 #[.val (.int p1)] [(.int p1)])) _
    refine XS.iconst X0.here hx rfl (hb hby d1_36) ?_
    show Steps p.tables e below (s₁.setTop (mkF m 37 #[.val (.int p1)] [(.int (4 : Int32)), (.int p1)])) _
    refine XS.icmpYes X0.here hx rfl (pc0 := 37) (pc' := 44) rfl (hb hby d1_37) rfl (feq hc37).2 (by decide) (by decide) ?_
    show Steps p.tables e below (s₁.setTop (mkF m 44 #[.val (.int p1)] [])) _
    refine XS.iloadN X0.here hx rfl (hb hby d1_44) rfl ?_
    show Steps p.tables e below (s₁.setTop (mkF m 45 #[.val (.int p1)] [(.int p1)])) _
    refine XS.iconst X0.here hx rfl (hb hby d1_45) ?_
    show Steps p.tables e below (s₁.setTop (mkF m 46 #[.val (.int p1)] [(.int (5 : Int32)), (.int p1)])) _
    refine XS.icmpYes X0.here hx rfl (pc0 := 46) (pc' := 53) rfl (hb hby d1_46) rfl (feq hc46).2 (by decide) (by decide) ?_
    show Steps p.tables e below (s₁.setTop (mkF m 53 #[.val (.int p1)] [])) _
    refine XS.iloadN X0.here hx rfl (hb hby d1_53) rfl ?_
    show Steps p.tables e below (s₁.setTop (mkF m 54 #[.val (.int p1)] [(.int p1)])) _
    refine XS.bipush X0.here hx rfl (hb hby d1_54) ?_
    show Steps p.tables e below (s₁.setTop (mkF m 56 #[.val (.int p1)] [(.int (6 : Int32)), (.int p1)])) _
    refine XS.icmpYes X0.here hx rfl (pc0 := 56) (pc' := 63) rfl (hb hby d1_56) rfl (feq hc56).2 (by decide) (by decide) ?_
    show Steps p.tables e below (s₁.setTop (mkF m 63 #[.val (.int p1)] [])) _
    refine XS.iloadN X0.here hx rfl (hb hby d1_63) rfl ?_
    show Steps p.tables e below (s₁.setTop (mkF m 64 #[.val (.int p1)] [(.int p1)])) _
    refine XS.bipush X0.here hx rfl (hb hby d1_64) ?_
    show Steps p.tables e below (s₁.setTop (mkF m 66 #[.val (.int p1)] [(.int (7 : Int32)), (.int p1)])) _
    refine XS.icmpYes X0.here hx rfl (pc0 := 66) (pc' := 73) rfl (hb hby d1_66) rfl (feq hc66).2 (by decide) (by decide) ?_
    show Steps p.tables e below (s₁.setTop (mkF m 73 #[.val (.int p1)] [])) _
    refine XS.iloadN X0.here hx rfl (hb hby d1_73) rfl ?_
    show Steps p.tables e below (s₁.setTop (mkF m 74 #[.val (.int p1)] [(.int p1)])) _
    refine XS.bipush X0.here hx rfl (hb hby d1_74) ?_
    show Steps p.tables e below (s₁.setTop (mkF m 76 #[.val (.int p1)] [(.int (8 : Int32)), (.int p1)])) _
    refine XS.icmpYes X0.here hx rfl (pc0 := 76) (pc' := 83) rfl (hb hby d1_76) rfl (feq hc76).2 (by decide) (by decide) ?_
    show Steps p.tables e below (s₁.setTop (mkF m 83 #[.val (.int p1)] [])) _
    refine XS.iloadN X0.here hx rfl (hb hby d1_83) rfl ?_
    show Steps p.tables e below (s₁.setTop (mkF m 84 #[.val (.int p1)] [(.int p1)])) _
    refine XS.bipush X0.here hx rfl (hb hby d1_84) ?_
    show Steps p.tables e below (s₁.setTop (mkF m 86 #[.val (.int p1)] [(.int (9 : Int32)), (.int p1)])) _
    refine XS.icmpYes X0.here hx rfl (pc0 := 86) (pc' := 93) rfl (hb hby d1_86) rfl (feq hc86).2 (by decide) (by decide) ?_
    show Steps p.tables e below (s₁.setTop (mkF m 93 #[.val (.int p1)] [])) _
    refine XS.iloadN X0.here hx rfl (hb hby d1_93) rfl ?_
    show Steps p.tables e below (s₁.setTop (mkF m 94 #[.val (.int p1)] [(.int p1)])) _
    refine XS.bipush X0.here hx rfl (hb hby d1_94) ?_
    show Steps p.tables e below (s₁.setTop (mkF m 96 #[.val (.int p1)] [(.int (10 : Int32)), (.int p1)])) _
    refine XS.icmpNo X0.here hx rfl (hb hby d1_96) rfl (teq hc96).2 ?_
    show Steps p.tables e below (s₁.setTop (mkF m 99 #[.val (.int p1)] [])) _
    refine st3 _ ?_
    show Steps p.tables e below (T3.setTop (mkF m 102 #[.val (.int p1)] [(.ref w2)])) _
    jvm_step X3.here [X3.here.top, hx, (hb hby d1_102), X3.method', Bd.returns, Value.isRef, FieldType.isReference]
    first | (intro acts; rw [hr _ acts rfl rfl rfl]) | rw [hr _ _ rfl rfl rfl]
    exact Steps.refl _
  · show Q1_ttttttttttf Z p1 w2 h0 n0 _ T3.heap _
    rw [e3]
    exact ⟨rfl, N0, rfl⟩
theorem d1_103 : decode method_2_code 103 = .ok (.iload_n 0, 1) := by decide +kernel
theorem d1_104 : decode method_2_code 104 = .ok (.bipush 11, 2) := by decide +kernel
theorem d1_106 : decode method_2_code 106 = .ok (.if_icmp .ne 7, 3) := by decide +kernel
theorem d1_109 : decode method_2_code 109 = .ok (.getstatic 43, 3) := by decide +kernel
theorem d1_112 : decode method_2_code 112 = .ok (.areturn, 1) := by decide +kernel
def Q1_tttttttttttf (Z : State) (p1 : Int32) (w2 : Addr) (h0 : Heap) (n0 : Nat) (v : Option Value) (h : Heap) (L : List Loc) : Prop := v = some (.ref w2) ∧ Fr n0 L ∧ h = h0
set_option maxRecDepth 65536 in
set_option maxHeartbeats 40000000 in
theorem rm1_tttttttttttf (l : Launch) (Z : State) (a0 : Array Value) (hw : ∀ d ∈ tables_1, d.before a0 Z = true) (ws : List Jvm.Cond) (p1 : Int32) (w2 : Addr) (h0 : Heap) (n0 : Nat) (Z0 : n0 ≤ h0.size) (S_BATCH : Sta Z h0 "com/example/lessor/lessor/protocol/Operation" "BATCH" "Lcom/example/lessor/lessor/protocol/Operation;" (.ref w2)) (hc1 : ¬ (p1 = (0 : Int32))) (hc10 : ¬ (p1 = (1 : Int32))) (hc19 : ¬ (p1 = (2 : Int32))) (hc28 : ¬ (p1 = (3 : Int32))) (hc37 : ¬ (p1 = (4 : Int32))) (hc46 : ¬ (p1 = (5 : Int32))) (hc56 : ¬ (p1 = (6 : Int32))) (hc66 : ¬ (p1 = (7 : Int32))) (hc76 : ¬ (p1 = (8 : Int32))) (hc86 : ¬ (p1 = (9 : Int32))) (hc96 : ¬ (p1 = (10 : Int32))) (hc106 : p1 = (11 : Int32)) :
    MetFree l (⟨"com/example/lessor/lessor/protocol/OperationIsBatchedPinLaw", "pick", "(I)Lcom/example/lessor/lessor/protocol/Operation;"⟩ : MethodName) (head1 (Jvm.Cond.code (⟨"com/example/lessor/lessor/protocol/OperationIsBatchedPinLaw", "pick", "(I)Lcom/example/lessor/lessor/protocol/Operation;"⟩ : MethodName) method_2_code 1 (some (.object "com/example/lessor/lessor/protocol/Operation")) :: ws) ({ frames := 0, cells := 0, slots := 0, locals := 0 } : Room)) (fun a U => a = #[(.int p1)] ∧ Z.Warmed39 U.vm ∧ U.heap = h0) (fun _ _ _ _ _ => True) (fun _ U o U' => ∃ v L, o = .returned v ∧ Q1_tttttttttttf Z p1 w2 h0 n0 v U'.heap L ∧ FrameEnd U o U' L ({ frames := 0, cells := 0, slots := 0, locals := 0 } : Room).cells ({ frames := 0, cells := 0, slots := 0, locals := 0 } : Room).slots) := by
  refine MetFree.of_bodySF (plainFor_of_name pn_1) hisR ?_
  intro p e s m args below meth c s₁ Bd hml0 hP hK
  obtain ⟨rfl, hZ, hh⟩ := hP
  have hx := Bd.exec
  have hby := Bd.bytes
  have hml : c.maxLocals = 1 := hml0
  have hown : s.vm.findClass "com/example/lessor/lessor/protocol/OperationIsBatchedPinLaw" = some m.cls := findClass_of_methodNamed Bd.named
  have hnm := (name_of_methodNamed Bd.named Bd.method).1
  have X0 : Stand p l e ({ frames := 0, cells := 0, slots := 0, locals := 0 } : Room) s m #[(.int p1)] below meth c s₁ [] 0 0 := Stand.of_body Bd
  have e0 : s₁.heap = h0 := by rw [← hh, Bd.state]; rfl
  have N0 := Fr.nil n0
  have pre0 : ∀ t, Steps p.tables e below (s₁.setTop (mkF m 0 #[.val (.int p1)] [])) t → Steps p.tables e below (s₁.setTop (entryFrame m #[(.int p1)] 1)) t := fun t k => castTop (ef_1 m p1) k
  -- 3. LAWS
  obtain ⟨T3, X3, e3, st3⟩ := getS2 X0 hx hZ hown (host := "") (Or.inl (hw _ (List.mem_of_getElem? (i := 56) rfl))) Via.refl e0 S_BATCH (g := (mkF m 109 #[.val (.int p1)] [])) rfl (hb hby d1_109)
  obtain ⟨fs, hr, hrun, hended, hW, hsame⟩ := X3.leave (v := some (.ref w2)) (fun h => by rw [Bd.returns] at h; cases h)
  refine ⟨_, _, pre0 _ ?_, hrun, hended, _, _, rfl, ?_, ⟨_, rfl⟩, hW, hsame.mono (by decide) (by decide)⟩
  -- 4. STEPS
  · show Steps p.tables e below (s₁.setTop (mkF m 0 #[.val (.int p1)] [])) _
    refine XS.iloadN X0.here hx rfl (hb hby d1_0) rfl ?_
    show Steps p.tables e below (s₁.setTop (mkF m 1 #[.val (.int p1)] [(.int p1)])) _
    refine XS.ifYes X0.here hx rfl (pc0 := 1) (pc' := 8) rfl (hb hby d1_1) rfl ((if0 _ _).trans (feq hc1).2) (by decide) (by decide) ?_
    show Steps p.tables e below (s₁.setTop (mkF m 8 #[.val (.int p1)] [])) _
    refine XS.iloadN X0.here hx rfl (hb hby d1_8) rfl ?_
    show Steps p.tables e below (s₁.setTop (mkF m 9 #[.val (.int p1)] [(.int p1)])) _
    refine XS.iconst X0.here hx rfl (hb hby d1_9) ?_
    show Steps p.tables e below (s₁.setTop (mkF m 10 #[.val (.int p1)] [(.int (1 : Int32)), (.int p1)])) _
    refine XS.icmpYes X0.here hx rfl (pc0 := 10) (pc' := 17) rfl (hb hby d1_10) rfl (feq hc10).2 (by decide) (by decide) ?_
    show Steps p.tables e below (s₁.setTop (mkF m 17 #[.val (.int p1)] [])) _
    refine XS.iloadN X0.here hx rfl (hb hby d1_17) rfl ?_
    show Steps p.tables e below (s₁.setTop (mkF m 18 #[.val (.int p1)] [(.int p1)])) _
    refine XS.iconst X0.here hx rfl (hb hby d1_18) ?_
    show Steps p.tables e below (s₁.setTop (mkF m 19 #[.val (.int p1)] [(.int (2 : Int32)), (.int p1)])) _
    refine XS.icmpYes X0.here hx rfl (pc0 := 19) (pc' := 26) rfl (hb hby d1_19) rfl (feq hc19).2 (by decide) (by decide) ?_
    show Steps p.tables e below (s₁.setTop (mkF m 26 #[.val (.int p1)] [])) _
    refine XS.iloadN X0.here hx rfl (hb hby d1_26) rfl ?_
    show Steps p.tables e below (s₁.setTop (mkF m 27 #[.val (.int p1)] [(.int p1)])) _
    refine XS.iconst X0.here hx rfl (hb hby d1_27) ?_
    show Steps p.tables e below (s₁.setTop (mkF m 28 #[.val (.int p1)] [(.int (3 : Int32)), (.int p1)])) _
    refine XS.icmpYes X0.here hx rfl (pc0 := 28) (pc' := 35) rfl (hb hby d1_28) rfl (feq hc28).2 (by decide) (by decide) ?_
    show Steps p.tables e below (s₁.setTop (mkF m 35 #[.val (.int p1)] [])) _
    refine XS.iloadN X0.here hx rfl (hb hby d1_35) rfl ?_
    show Steps p.tables e below (s₁.setTop (mkF m 36 #[.val (.int p1)] [(.int p1)])) _
    refine XS.iconst X0.here hx rfl (hb hby d1_36) ?_
    show Steps p.tables e below (s₁.setTop (mkF m 37 #[.val (.int p1)] [(.int (4 : Int32)), (.int p1)])) _
    refine XS.icmpYes X0.here hx rfl (pc0 := 37) (pc' := 44) rfl (hb hby d1_37) rfl (feq hc37).2 (by decide) (by decide) ?_
    show Steps p.tables e below (s₁.setTop (mkF m 44 #[.val (.int p1)] [])) _
    refine XS.iloadN X0.here hx rfl (hb hby d1_44) rfl ?_
    show Steps p.tables e below (s₁.setTop (mkF m 45 #[.val (.int p1)] [(.int p1)])) _
    refine XS.iconst X0.here hx rfl (hb hby d1_45) ?_
    show Steps p.tables e below (s₁.setTop (mkF m 46 #[.val (.int p1)] [(.int (5 : Int32)), (.int p1)])) _
    refine XS.icmpYes X0.here hx rfl (pc0 := 46) (pc' := 53) rfl (hb hby d1_46) rfl (feq hc46).2 (by decide) (by decide) ?_
    show Steps p.tables e below (s₁.setTop (mkF m 53 #[.val (.int p1)] [])) _
    refine XS.iloadN X0.here hx rfl (hb hby d1_53) rfl ?_
    show Steps p.tables e below (s₁.setTop (mkF m 54 #[.val (.int p1)] [(.int p1)])) _
    refine XS.bipush X0.here hx rfl (hb hby d1_54) ?_
    show Steps p.tables e below (s₁.setTop (mkF m 56 #[.val (.int p1)] [(.int (6 : Int32)), (.int p1)])) _
    refine XS.icmpYes X0.here hx rfl (pc0 := 56) (pc' := 63) rfl (hb hby d1_56) rfl (feq hc56).2 (by decide) (by decide) ?_
    show Steps p.tables e below (s₁.setTop (mkF m 63 #[.val (.int p1)] [])) _
    refine XS.iloadN X0.here hx rfl (hb hby d1_63) rfl ?_
    show Steps p.tables e below (s₁.setTop (mkF m 64 #[.val (.int p1)] [(.int p1)])) _
    refine XS.bipush X0.here hx rfl (hb hby d1_64) ?_
    show Steps p.tables e below (s₁.setTop (mkF m 66 #[.val (.int p1)] [(.int (7 : Int32)), (.int p1)])) _
    refine XS.icmpYes X0.here hx rfl (pc0 := 66) (pc' := 73) rfl (hb hby d1_66) rfl (feq hc66).2 (by decide) (by decide) ?_
    show Steps p.tables e below (s₁.setTop (mkF m 73 #[.val (.int p1)] [])) _
    refine XS.iloadN X0.here hx rfl (hb hby d1_73) rfl ?_
    show Steps p.tables e below (s₁.setTop (mkF m 74 #[.val (.int p1)] [(.int p1)])) _
    refine XS.bipush X0.here hx rfl (hb hby d1_74) ?_
    show Steps p.tables e below (s₁.setTop (mkF m 76 #[.val (.int p1)] [(.int (8 : Int32)), (.int p1)])) _
    refine XS.icmpYes X0.here hx rfl (pc0 := 76) (pc' := 83) rfl (hb hby d1_76) rfl (feq hc76).2 (by decide) (by decide) ?_
    show Steps p.tables e below (s₁.setTop (mkF m 83 #[.val (.int p1)] [])) _
    refine XS.iloadN X0.here hx rfl (hb hby d1_83) rfl ?_
    show Steps p.tables e below (s₁.setTop (mkF m 84 #[.val (.int p1)] [(.int p1)])) _
    refine XS.bipush X0.here hx rfl (hb hby d1_84) ?_
    show Steps p.tables e below (s₁.setTop (mkF m 86 #[.val (.int p1)] [(.int (9 : Int32)), (.int p1)])) _
    refine XS.icmpYes X0.here hx rfl (pc0 := 86) (pc' := 93) rfl (hb hby d1_86) rfl (feq hc86).2 (by decide) (by decide) ?_
    show Steps p.tables e below (s₁.setTop (mkF m 93 #[.val (.int p1)] [])) _
    refine XS.iloadN X0.here hx rfl (hb hby d1_93) rfl ?_
    show Steps p.tables e below (s₁.setTop (mkF m 94 #[.val (.int p1)] [(.int p1)])) _
    refine XS.bipush X0.here hx rfl (hb hby d1_94) ?_
    show Steps p.tables e below (s₁.setTop (mkF m 96 #[.val (.int p1)] [(.int (10 : Int32)), (.int p1)])) _
    refine XS.icmpYes X0.here hx rfl (pc0 := 96) (pc' := 103) rfl (hb hby d1_96) rfl (feq hc96).2 (by decide) (by decide) ?_
    show Steps p.tables e below (s₁.setTop (mkF m 103 #[.val (.int p1)] [])) _
    refine XS.iloadN X0.here hx rfl (hb hby d1_103) rfl ?_
    show Steps p.tables e below (s₁.setTop (mkF m 104 #[.val (.int p1)] [(.int p1)])) _
    refine XS.bipush X0.here hx rfl (hb hby d1_104) ?_
    show Steps p.tables e below (s₁.setTop (mkF m 106 #[.val (.int p1)] [(.int (11 : Int32)), (.int p1)])) _
    refine XS.icmpNo X0.here hx rfl (hb hby d1_106) rfl (teq hc106).2 ?_
    show Steps p.tables e below (s₁.setTop (mkF m 109 #[.val (.int p1)] [])) _
    refine st3 _ ?_
    show Steps p.tables e below (T3.setTop (mkF m 112 #[.val (.int p1)] [(.ref w2)])) _
    jvm_step X3.here [X3.here.top, hx, (hb hby d1_112), X3.method', Bd.returns, Value.isRef, FieldType.isReference]
    first | (intro acts; rw [hr _ acts rfl rfl rfl]) | rw [hr _ _ rfl rfl rfl]
    exact Steps.refl _
  · show Q1_tttttttttttf Z p1 w2 h0 n0 _ T3.heap _
    rw [e3]
    exact ⟨rfl, N0, rfl⟩
theorem d1_113 : decode method_2_code 113 = .ok (.iload_n 0, 1) := by decide +kernel
theorem d1_114 : decode method_2_code 114 = .ok (.bipush 12, 2) := by decide +kernel
theorem d1_116 : decode method_2_code 116 = .ok (.if_icmp .ne 7, 3) := by decide +kernel
theorem d1_119 : decode method_2_code 119 = .ok (.getstatic 46, 3) := by decide +kernel
theorem d1_122 : decode method_2_code 122 = .ok (.areturn, 1) := by decide +kernel
def Q1_ttttttttttttf (Z : State) (p1 : Int32) (w2 : Addr) (h0 : Heap) (n0 : Nat) (v : Option Value) (h : Heap) (L : List Loc) : Prop := v = some (.ref w2) ∧ Fr n0 L ∧ h = h0
set_option maxRecDepth 65536 in
set_option maxHeartbeats 40000000 in
theorem rm1_ttttttttttttf (l : Launch) (Z : State) (a0 : Array Value) (hw : ∀ d ∈ tables_1, d.before a0 Z = true) (ws : List Jvm.Cond) (p1 : Int32) (w2 : Addr) (h0 : Heap) (n0 : Nat) (Z0 : n0 ≤ h0.size) (S_OPEN : Sta Z h0 "com/example/lessor/lessor/protocol/Operation" "OPEN" "Lcom/example/lessor/lessor/protocol/Operation;" (.ref w2)) (hc1 : ¬ (p1 = (0 : Int32))) (hc10 : ¬ (p1 = (1 : Int32))) (hc19 : ¬ (p1 = (2 : Int32))) (hc28 : ¬ (p1 = (3 : Int32))) (hc37 : ¬ (p1 = (4 : Int32))) (hc46 : ¬ (p1 = (5 : Int32))) (hc56 : ¬ (p1 = (6 : Int32))) (hc66 : ¬ (p1 = (7 : Int32))) (hc76 : ¬ (p1 = (8 : Int32))) (hc86 : ¬ (p1 = (9 : Int32))) (hc96 : ¬ (p1 = (10 : Int32))) (hc106 : ¬ (p1 = (11 : Int32))) (hc116 : p1 = (12 : Int32)) :
    MetFree l (⟨"com/example/lessor/lessor/protocol/OperationIsBatchedPinLaw", "pick", "(I)Lcom/example/lessor/lessor/protocol/Operation;"⟩ : MethodName) (head1 (Jvm.Cond.code (⟨"com/example/lessor/lessor/protocol/OperationIsBatchedPinLaw", "pick", "(I)Lcom/example/lessor/lessor/protocol/Operation;"⟩ : MethodName) method_2_code 1 (some (.object "com/example/lessor/lessor/protocol/Operation")) :: ws) ({ frames := 0, cells := 0, slots := 0, locals := 0 } : Room)) (fun a U => a = #[(.int p1)] ∧ Z.Warmed39 U.vm ∧ U.heap = h0) (fun _ _ _ _ _ => True) (fun _ U o U' => ∃ v L, o = .returned v ∧ Q1_ttttttttttttf Z p1 w2 h0 n0 v U'.heap L ∧ FrameEnd U o U' L ({ frames := 0, cells := 0, slots := 0, locals := 0 } : Room).cells ({ frames := 0, cells := 0, slots := 0, locals := 0 } : Room).slots) := by
  refine MetFree.of_bodySF (plainFor_of_name pn_1) hisR ?_
  intro p e s m args below meth c s₁ Bd hml0 hP hK
  obtain ⟨rfl, hZ, hh⟩ := hP
  have hx := Bd.exec
  have hby := Bd.bytes
  have hml : c.maxLocals = 1 := hml0
  have hown : s.vm.findClass "com/example/lessor/lessor/protocol/OperationIsBatchedPinLaw" = some m.cls := findClass_of_methodNamed Bd.named
  have hnm := (name_of_methodNamed Bd.named Bd.method).1
  have X0 : Stand p l e ({ frames := 0, cells := 0, slots := 0, locals := 0 } : Room) s m #[(.int p1)] below meth c s₁ [] 0 0 := Stand.of_body Bd
  have e0 : s₁.heap = h0 := by rw [← hh, Bd.state]; rfl
  have N0 := Fr.nil n0
  have pre0 : ∀ t, Steps p.tables e below (s₁.setTop (mkF m 0 #[.val (.int p1)] [])) t → Steps p.tables e below (s₁.setTop (entryFrame m #[(.int p1)] 1)) t := fun t k => castTop (ef_1 m p1) k
  -- 3. LAWS
  obtain ⟨T3, X3, e3, st3⟩ := getS2 X0 hx hZ hown (host := "") (Or.inl (hw _ (List.mem_of_getElem? (i := 45) rfl))) Via.refl e0 S_OPEN (g := (mkF m 119 #[.val (.int p1)] [])) rfl (hb hby d1_119)
  obtain ⟨fs, hr, hrun, hended, hW, hsame⟩ := X3.leave (v := some (.ref w2)) (fun h => by rw [Bd.returns] at h; cases h)
  refine ⟨_, _, pre0 _ ?_, hrun, hended, _, _, rfl, ?_, ⟨_, rfl⟩, hW, hsame.mono (by decide) (by decide)⟩
  -- 4. STEPS
  · show Steps p.tables e below (s₁.setTop (mkF m 0 #[.val (.int p1)] [])) _
    refine XS.iloadN X0.here hx rfl (hb hby d1_0) rfl ?_
    show Steps p.tables e below (s₁.setTop (mkF m 1 #[.val (.int p1)] [(.int p1)])) _
    refine XS.ifYes X0.here hx rfl (pc0 := 1) (pc' := 8) rfl (hb hby d1_1) rfl ((if0 _ _).trans (feq hc1).2) (by decide) (by decide) ?_
    show Steps p.tables e below (s₁.setTop (mkF m 8 #[.val (.int p1)] [])) _
    refine XS.iloadN X0.here hx rfl (hb hby d1_8) rfl ?_
    show Steps p.tables e below (s₁.setTop (mkF m 9 #[.val (.int p1)] [(.int p1)])) _
    refine XS.iconst X0.here hx rfl (hb hby d1_9) ?_
    show Steps p.tables e below (s₁.setTop (mkF m 10 #[.val (.int p1)] [(.int (1 : Int32)), (.int p1)])) _
    refine XS.icmpYes X0.here hx rfl (pc0 := 10) (pc' := 17) rfl (hb hby d1_10) rfl (feq hc10).2 (by decide) (by decide) ?_
    show Steps p.tables e below (s₁.setTop (mkF m 17 #[.val (.int p1)] [])) _
    refine XS.iloadN X0.here hx rfl (hb hby d1_17) rfl ?_
    show Steps p.tables e below (s₁.setTop (mkF m 18 #[.val (.int p1)] [(.int p1)])) _
    refine XS.iconst X0.here hx rfl (hb hby d1_18) ?_
    show Steps p.tables e below (s₁.setTop (mkF m 19 #[.val (.int p1)] [(.int (2 : Int32)), (.int p1)])) _
    refine XS.icmpYes X0.here hx rfl (pc0 := 19) (pc' := 26) rfl (hb hby d1_19) rfl (feq hc19).2 (by decide) (by decide) ?_
    show Steps p.tables e below (s₁.setTop (mkF m 26 #[.val (.int p1)] [])) _
    refine XS.iloadN X0.here hx rfl (hb hby d1_26) rfl ?_
    show Steps p.tables e below (s₁.setTop (mkF m 27 #[.val (.int p1)] [(.int p1)])) _
    refine XS.iconst X0.here hx rfl (hb hby d1_27) ?_
    show Steps p.tables e below (s₁.setTop (mkF m 28 #[.val (.int p1)] [(.int (3 : Int32)), (.int p1)])) _
    refine XS.icmpYes X0.here hx rfl (pc0 := 28) (pc' := 35) rfl (hb hby d1_28) rfl (feq hc28).2 (by decide) (by decide) ?_
    show Steps p.tables e below (s₁.setTop (mkF m 35 #[.val (.int p1)] [])) _
    refine XS.iloadN X0.here hx rfl (hb hby d1_35) rfl ?_
    show Steps p.tables e below (s₁.setTop (mkF m 36 #[.val (.int p1)] [(.int p1)])) _
    refine XS.iconst X0.here hx rfl (hb hby d1_36) ?_
    show Steps p.tables e below (s₁.setTop (mkF m 37 #[.val (.int p1)] [(.int (4 : Int32)), (.int p1)])) _
    refine XS.icmpYes X0.here hx rfl (pc0 := 37) (pc' := 44) rfl (hb hby d1_37) rfl (feq hc37).2 (by decide) (by decide) ?_
    show Steps p.tables e below (s₁.setTop (mkF m 44 #[.val (.int p1)] [])) _
    refine XS.iloadN X0.here hx rfl (hb hby d1_44) rfl ?_
    show Steps p.tables e below (s₁.setTop (mkF m 45 #[.val (.int p1)] [(.int p1)])) _
    refine XS.iconst X0.here hx rfl (hb hby d1_45) ?_
    show Steps p.tables e below (s₁.setTop (mkF m 46 #[.val (.int p1)] [(.int (5 : Int32)), (.int p1)])) _
    refine XS.icmpYes X0.here hx rfl (pc0 := 46) (pc' := 53) rfl (hb hby d1_46) rfl (feq hc46).2 (by decide) (by decide) ?_
    show Steps p.tables e below (s₁.setTop (mkF m 53 #[.val (.int p1)] [])) _
    refine XS.iloadN X0.here hx rfl (hb hby d1_53) rfl ?_
    show Steps p.tables e below (s₁.setTop (mkF m 54 #[.val (.int p1)] [(.int p1)])) _
    refine XS.bipush X0.here hx rfl (hb hby d1_54) ?_
    show Steps p.tables e below (s₁.setTop (mkF m 56 #[.val (.int p1)] [(.int (6 : Int32)), (.int p1)])) _
    refine XS.icmpYes X0.here hx rfl (pc0 := 56) (pc' := 63) rfl (hb hby d1_56) rfl (feq hc56).2 (by decide) (by decide) ?_
    show Steps p.tables e below (s₁.setTop (mkF m 63 #[.val (.int p1)] [])) _
    refine XS.iloadN X0.here hx rfl (hb hby d1_63) rfl ?_
    show Steps p.tables e below (s₁.setTop (mkF m 64 #[.val (.int p1)] [(.int p1)])) _
    refine XS.bipush X0.here hx rfl (hb hby d1_64) ?_
    show Steps p.tables e below (s₁.setTop (mkF m 66 #[.val (.int p1)] [(.int (7 : Int32)), (.int p1)])) _
    refine XS.icmpYes X0.here hx rfl (pc0 := 66) (pc' := 73) rfl (hb hby d1_66) rfl (feq hc66).2 (by decide) (by decide) ?_
    show Steps p.tables e below (s₁.setTop (mkF m 73 #[.val (.int p1)] [])) _
    refine XS.iloadN X0.here hx rfl (hb hby d1_73) rfl ?_
    show Steps p.tables e below (s₁.setTop (mkF m 74 #[.val (.int p1)] [(.int p1)])) _
    refine XS.bipush X0.here hx rfl (hb hby d1_74) ?_
    show Steps p.tables e below (s₁.setTop (mkF m 76 #[.val (.int p1)] [(.int (8 : Int32)), (.int p1)])) _
    refine XS.icmpYes X0.here hx rfl (pc0 := 76) (pc' := 83) rfl (hb hby d1_76) rfl (feq hc76).2 (by decide) (by decide) ?_
    show Steps p.tables e below (s₁.setTop (mkF m 83 #[.val (.int p1)] [])) _
    refine XS.iloadN X0.here hx rfl (hb hby d1_83) rfl ?_
    show Steps p.tables e below (s₁.setTop (mkF m 84 #[.val (.int p1)] [(.int p1)])) _
    refine XS.bipush X0.here hx rfl (hb hby d1_84) ?_
    show Steps p.tables e below (s₁.setTop (mkF m 86 #[.val (.int p1)] [(.int (9 : Int32)), (.int p1)])) _
    refine XS.icmpYes X0.here hx rfl (pc0 := 86) (pc' := 93) rfl (hb hby d1_86) rfl (feq hc86).2 (by decide) (by decide) ?_
    show Steps p.tables e below (s₁.setTop (mkF m 93 #[.val (.int p1)] [])) _
    refine XS.iloadN X0.here hx rfl (hb hby d1_93) rfl ?_
    show Steps p.tables e below (s₁.setTop (mkF m 94 #[.val (.int p1)] [(.int p1)])) _
    refine XS.bipush X0.here hx rfl (hb hby d1_94) ?_
    show Steps p.tables e below (s₁.setTop (mkF m 96 #[.val (.int p1)] [(.int (10 : Int32)), (.int p1)])) _
    refine XS.icmpYes X0.here hx rfl (pc0 := 96) (pc' := 103) rfl (hb hby d1_96) rfl (feq hc96).2 (by decide) (by decide) ?_
    show Steps p.tables e below (s₁.setTop (mkF m 103 #[.val (.int p1)] [])) _
    refine XS.iloadN X0.here hx rfl (hb hby d1_103) rfl ?_
    show Steps p.tables e below (s₁.setTop (mkF m 104 #[.val (.int p1)] [(.int p1)])) _
    refine XS.bipush X0.here hx rfl (hb hby d1_104) ?_
    show Steps p.tables e below (s₁.setTop (mkF m 106 #[.val (.int p1)] [(.int (11 : Int32)), (.int p1)])) _
    refine XS.icmpYes X0.here hx rfl (pc0 := 106) (pc' := 113) rfl (hb hby d1_106) rfl (feq hc106).2 (by decide) (by decide) ?_
    show Steps p.tables e below (s₁.setTop (mkF m 113 #[.val (.int p1)] [])) _
    refine XS.iloadN X0.here hx rfl (hb hby d1_113) rfl ?_
    show Steps p.tables e below (s₁.setTop (mkF m 114 #[.val (.int p1)] [(.int p1)])) _
    refine XS.bipush X0.here hx rfl (hb hby d1_114) ?_
    show Steps p.tables e below (s₁.setTop (mkF m 116 #[.val (.int p1)] [(.int (12 : Int32)), (.int p1)])) _
    refine XS.icmpNo X0.here hx rfl (hb hby d1_116) rfl (teq hc116).2 ?_
    show Steps p.tables e below (s₁.setTop (mkF m 119 #[.val (.int p1)] [])) _
    refine st3 _ ?_
    show Steps p.tables e below (T3.setTop (mkF m 122 #[.val (.int p1)] [(.ref w2)])) _
    jvm_step X3.here [X3.here.top, hx, (hb hby d1_122), X3.method', Bd.returns, Value.isRef, FieldType.isReference]
    first | (intro acts; rw [hr _ acts rfl rfl rfl]) | rw [hr _ _ rfl rfl rfl]
    exact Steps.refl _
  · show Q1_ttttttttttttf Z p1 w2 h0 n0 _ T3.heap _
    rw [e3]
    exact ⟨rfl, N0, rfl⟩
theorem d1_123 : decode method_2_code 123 = .ok (.getstatic 49, 3) := by decide +kernel
theorem d1_126 : decode method_2_code 126 = .ok (.areturn, 1) := by decide +kernel
def Q1_ttttttttttttt (Z : State) (p1 : Int32) (w2 : Addr) (h0 : Heap) (n0 : Nat) (v : Option Value) (h : Heap) (L : List Loc) : Prop := v = some (.ref w2) ∧ Fr n0 L ∧ h = h0
set_option maxRecDepth 65536 in
set_option maxHeartbeats 40000000 in
theorem rm1_ttttttttttttt (l : Launch) (Z : State) (a0 : Array Value) (hw : ∀ d ∈ tables_1, d.before a0 Z = true) (ws : List Jvm.Cond) (p1 : Int32) (w2 : Addr) (h0 : Heap) (n0 : Nat) (Z0 : n0 ≤ h0.size) (S_CLOSE : Sta Z h0 "com/example/lessor/lessor/protocol/Operation" "CLOSE" "Lcom/example/lessor/lessor/protocol/Operation;" (.ref w2)) (hc1 : ¬ (p1 = (0 : Int32))) (hc10 : ¬ (p1 = (1 : Int32))) (hc19 : ¬ (p1 = (2 : Int32))) (hc28 : ¬ (p1 = (3 : Int32))) (hc37 : ¬ (p1 = (4 : Int32))) (hc46 : ¬ (p1 = (5 : Int32))) (hc56 : ¬ (p1 = (6 : Int32))) (hc66 : ¬ (p1 = (7 : Int32))) (hc76 : ¬ (p1 = (8 : Int32))) (hc86 : ¬ (p1 = (9 : Int32))) (hc96 : ¬ (p1 = (10 : Int32))) (hc106 : ¬ (p1 = (11 : Int32))) (hc116 : ¬ (p1 = (12 : Int32))) :
    MetFree l (⟨"com/example/lessor/lessor/protocol/OperationIsBatchedPinLaw", "pick", "(I)Lcom/example/lessor/lessor/protocol/Operation;"⟩ : MethodName) (head1 (Jvm.Cond.code (⟨"com/example/lessor/lessor/protocol/OperationIsBatchedPinLaw", "pick", "(I)Lcom/example/lessor/lessor/protocol/Operation;"⟩ : MethodName) method_2_code 1 (some (.object "com/example/lessor/lessor/protocol/Operation")) :: ws) ({ frames := 0, cells := 0, slots := 0, locals := 0 } : Room)) (fun a U => a = #[(.int p1)] ∧ Z.Warmed39 U.vm ∧ U.heap = h0) (fun _ _ _ _ _ => True) (fun _ U o U' => ∃ v L, o = .returned v ∧ Q1_ttttttttttttt Z p1 w2 h0 n0 v U'.heap L ∧ FrameEnd U o U' L ({ frames := 0, cells := 0, slots := 0, locals := 0 } : Room).cells ({ frames := 0, cells := 0, slots := 0, locals := 0 } : Room).slots) := by
  refine MetFree.of_bodySF (plainFor_of_name pn_1) hisR ?_
  intro p e s m args below meth c s₁ Bd hml0 hP hK
  obtain ⟨rfl, hZ, hh⟩ := hP
  have hx := Bd.exec
  have hby := Bd.bytes
  have hml : c.maxLocals = 1 := hml0
  have hown : s.vm.findClass "com/example/lessor/lessor/protocol/OperationIsBatchedPinLaw" = some m.cls := findClass_of_methodNamed Bd.named
  have hnm := (name_of_methodNamed Bd.named Bd.method).1
  have X0 : Stand p l e ({ frames := 0, cells := 0, slots := 0, locals := 0 } : Room) s m #[(.int p1)] below meth c s₁ [] 0 0 := Stand.of_body Bd
  have e0 : s₁.heap = h0 := by rw [← hh, Bd.state]; rfl
  have N0 := Fr.nil n0
  have pre0 : ∀ t, Steps p.tables e below (s₁.setTop (mkF m 0 #[.val (.int p1)] [])) t → Steps p.tables e below (s₁.setTop (entryFrame m #[(.int p1)] 1)) t := fun t k => castTop (ef_1 m p1) k
  -- 3. LAWS
  obtain ⟨T3, X3, e3, st3⟩ := getS2 X0 hx hZ hown (host := "") (Or.inl (hw _ (List.mem_of_getElem? (i := 50) rfl))) Via.refl e0 S_CLOSE (g := (mkF m 123 #[.val (.int p1)] [])) rfl (hb hby d1_123)
  obtain ⟨fs, hr, hrun, hended, hW, hsame⟩ := X3.leave (v := some (.ref w2)) (fun h => by rw [Bd.returns] at h; cases h)
  refine ⟨_, _, pre0 _ ?_, hrun, hended, _, _, rfl, ?_, ⟨_, rfl⟩, hW, hsame.mono (by decide) (by decide)⟩
  -- 4. STEPS
  · show Steps p.tables e below (s₁.setTop (mkF m 0 #[.val (.int p1)] [])) _
    refine XS.iloadN X0.here hx rfl (hb hby d1_0) rfl ?_
    show Steps p.tables e below (s₁.setTop (mkF m 1 #[.val (.int p1)] [(.int p1)])) _
    refine XS.ifYes X0.here hx rfl (pc0 := 1) (pc' := 8) rfl (hb hby d1_1) rfl ((if0 _ _).trans (feq hc1).2) (by decide) (by decide) ?_
    show Steps p.tables e below (s₁.setTop (mkF m 8 #[.val (.int p1)] [])) _
    refine XS.iloadN X0.here hx rfl (hb hby d1_8) rfl ?_
    show Steps p.tables e below (s₁.setTop (mkF m 9 #[.val (.int p1)] [(.int p1)])) _
    refine XS.iconst X0.here hx rfl (hb hby d1_9) ?_
    show Steps p.tables e below (s₁.setTop (mkF m 10 #[.val (.int p1)] [(.int (1 : Int32)), (.int p1)])) _
    refine XS.icmpYes X0.here hx rfl (pc0 := 10) (pc' := 17) rfl (hb hby d1_10) rfl (feq hc10).2 (by decide) (by decide) ?_
    show Steps p.tables e below (s₁.setTop (mkF m 17 #[.val (.int p1)] [])) _
    refine XS.iloadN X0.here hx rfl (hb hby d1_17) rfl ?_
    show Steps p.tables e below (s₁.setTop (mkF m 18 #[.val (.int p1)] [(.int p1)])) _
    refine XS.iconst X0.here hx rfl (hb hby d1_18) ?_
    show Steps p.tables e below (s₁.setTop (mkF m 19 #[.val (.int p1)] [(.int (2 : Int32)), (.int p1)])) _
    refine XS.icmpYes X0.here hx rfl (pc0 := 19) (pc' := 26) rfl (hb hby d1_19) rfl (feq hc19).2 (by decide) (by decide) ?_
    show Steps p.tables e below (s₁.setTop (mkF m 26 #[.val (.int p1)] [])) _
    refine XS.iloadN X0.here hx rfl (hb hby d1_26) rfl ?_
    show Steps p.tables e below (s₁.setTop (mkF m 27 #[.val (.int p1)] [(.int p1)])) _
    refine XS.iconst X0.here hx rfl (hb hby d1_27) ?_
    show Steps p.tables e below (s₁.setTop (mkF m 28 #[.val (.int p1)] [(.int (3 : Int32)), (.int p1)])) _
    refine XS.icmpYes X0.here hx rfl (pc0 := 28) (pc' := 35) rfl (hb hby d1_28) rfl (feq hc28).2 (by decide) (by decide) ?_
    show Steps p.tables e below (s₁.setTop (mkF m 35 #[.val (.int p1)] [])) _
    refine XS.iloadN X0.here hx rfl (hb hby d1_35) rfl ?_
    show Steps p.tables e below (s₁.setTop (mkF m 36 #[.val (.int p1)] [(.int p1)])) _
    refine XS.iconst X0.here hx rfl (hb hby d1_36) ?_
    show Steps p.tables e below (s₁.setTop (mkF m 37 #[.val (.int p1)] [(.int (4 : Int32)), (.int p1)])) _
    refine XS.icmpYes X0.here hx rfl (pc0 := 37) (pc' := 44) rfl (hb hby d1_37) rfl (feq hc37).2 (by decide) (by decide) ?_
    show Steps p.tables e below (s₁.setTop (mkF m 44 #[.val (.int p1)] [])) _
    refine XS.iloadN X0.here hx rfl (hb hby d1_44) rfl ?_
    show Steps p.tables e below (s₁.setTop (mkF m 45 #[.val (.int p1)] [(.int p1)])) _
    refine XS.iconst X0.here hx rfl (hb hby d1_45) ?_
    show Steps p.tables e below (s₁.setTop (mkF m 46 #[.val (.int p1)] [(.int (5 : Int32)), (.int p1)])) _
    refine XS.icmpYes X0.here hx rfl (pc0 := 46) (pc' := 53) rfl (hb hby d1_46) rfl (feq hc46).2 (by decide) (by decide) ?_
    show Steps p.tables e below (s₁.setTop (mkF m 53 #[.val (.int p1)] [])) _
    refine XS.iloadN X0.here hx rfl (hb hby d1_53) rfl ?_
    show Steps p.tables e below (s₁.setTop (mkF m 54 #[.val (.int p1)] [(.int p1)])) _
    refine XS.bipush X0.here hx rfl (hb hby d1_54) ?_
    show Steps p.tables e below (s₁.setTop (mkF m 56 #[.val (.int p1)] [(.int (6 : Int32)), (.int p1)])) _
    refine XS.icmpYes X0.here hx rfl (pc0 := 56) (pc' := 63) rfl (hb hby d1_56) rfl (feq hc56).2 (by decide) (by decide) ?_
    show Steps p.tables e below (s₁.setTop (mkF m 63 #[.val (.int p1)] [])) _
    refine XS.iloadN X0.here hx rfl (hb hby d1_63) rfl ?_
    show Steps p.tables e below (s₁.setTop (mkF m 64 #[.val (.int p1)] [(.int p1)])) _
    refine XS.bipush X0.here hx rfl (hb hby d1_64) ?_
    show Steps p.tables e below (s₁.setTop (mkF m 66 #[.val (.int p1)] [(.int (7 : Int32)), (.int p1)])) _
    refine XS.icmpYes X0.here hx rfl (pc0 := 66) (pc' := 73) rfl (hb hby d1_66) rfl (feq hc66).2 (by decide) (by decide) ?_
    show Steps p.tables e below (s₁.setTop (mkF m 73 #[.val (.int p1)] [])) _
    refine XS.iloadN X0.here hx rfl (hb hby d1_73) rfl ?_
    show Steps p.tables e below (s₁.setTop (mkF m 74 #[.val (.int p1)] [(.int p1)])) _
    refine XS.bipush X0.here hx rfl (hb hby d1_74) ?_
    show Steps p.tables e below (s₁.setTop (mkF m 76 #[.val (.int p1)] [(.int (8 : Int32)), (.int p1)])) _
    refine XS.icmpYes X0.here hx rfl (pc0 := 76) (pc' := 83) rfl (hb hby d1_76) rfl (feq hc76).2 (by decide) (by decide) ?_
    show Steps p.tables e below (s₁.setTop (mkF m 83 #[.val (.int p1)] [])) _
    refine XS.iloadN X0.here hx rfl (hb hby d1_83) rfl ?_
    show Steps p.tables e below (s₁.setTop (mkF m 84 #[.val (.int p1)] [(.int p1)])) _
    refine XS.bipush X0.here hx rfl (hb hby d1_84) ?_
    show Steps p.tables e below (s₁.setTop (mkF m 86 #[.val (.int p1)] [(.int (9 : Int32)), (.int p1)])) _
    refine XS.icmpYes X0.here hx rfl (pc0 := 86) (pc' := 93) rfl (hb hby d1_86) rfl (feq hc86).2 (by decide) (by decide) ?_
    show Steps p.tables e below (s₁.setTop (mkF m 93 #[.val (.int p1)] [])) _
    refine XS.iloadN X0.here hx rfl (hb hby d1_93) rfl ?_
    show Steps p.tables e below (s₁.setTop (mkF m 94 #[.val (.int p1)] [(.int p1)])) _
    refine XS.bipush X0.here hx rfl (hb hby d1_94) ?_
    show Steps p.tables e below (s₁.setTop (mkF m 96 #[.val (.int p1)] [(.int (10 : Int32)), (.int p1)])) _
    refine XS.icmpYes X0.here hx rfl (pc0 := 96) (pc' := 103) rfl (hb hby d1_96) rfl (feq hc96).2 (by decide) (by decide) ?_
    show Steps p.tables e below (s₁.setTop (mkF m 103 #[.val (.int p1)] [])) _
    refine XS.iloadN X0.here hx rfl (hb hby d1_103) rfl ?_
    show Steps p.tables e below (s₁.setTop (mkF m 104 #[.val (.int p1)] [(.int p1)])) _
    refine XS.bipush X0.here hx rfl (hb hby d1_104) ?_
    show Steps p.tables e below (s₁.setTop (mkF m 106 #[.val (.int p1)] [(.int (11 : Int32)), (.int p1)])) _
    refine XS.icmpYes X0.here hx rfl (pc0 := 106) (pc' := 113) rfl (hb hby d1_106) rfl (feq hc106).2 (by decide) (by decide) ?_
    show Steps p.tables e below (s₁.setTop (mkF m 113 #[.val (.int p1)] [])) _
    refine XS.iloadN X0.here hx rfl (hb hby d1_113) rfl ?_
    show Steps p.tables e below (s₁.setTop (mkF m 114 #[.val (.int p1)] [(.int p1)])) _
    refine XS.bipush X0.here hx rfl (hb hby d1_114) ?_
    show Steps p.tables e below (s₁.setTop (mkF m 116 #[.val (.int p1)] [(.int (12 : Int32)), (.int p1)])) _
    refine XS.icmpYes X0.here hx rfl (pc0 := 116) (pc' := 123) rfl (hb hby d1_116) rfl (feq hc116).2 (by decide) (by decide) ?_
    show Steps p.tables e below (s₁.setTop (mkF m 123 #[.val (.int p1)] [])) _
    refine st3 _ ?_
    show Steps p.tables e below (T3.setTop (mkF m 126 #[.val (.int p1)] [(.ref w2)])) _
    jvm_step X3.here [X3.here.top, hx, (hb hby d1_126), X3.method', Bd.returns, Value.isRef, FieldType.isReference]
    first | (intro acts; rw [hr _ acts rfl rfl rfl]) | rw [hr _ _ rfl rfl rfl]
    exact Steps.refl _
  · show Q1_ttttttttttttt Z p1 w2 h0 n0 _ T3.heap _
    rw [e3]
    exact ⟨rfl, N0, rfl⟩
def P1 (Z : State) (h0 : Heap) (p1 : Int32) (r : Option Value) : Prop := (∃ (w2 : Addr), (Sta Z h0 "com/example/lessor/lessor/protocol/Operation" "MKDIR" "Lcom/example/lessor/lessor/protocol/Operation;" (.ref w2)) ∧ (p1 = (0 : Int32)) ∧ r = some (.ref w2)) ∨ (∃ (w2 : Addr), (Sta Z h0 "com/example/lessor/lessor/protocol/Operation" "CREATE" "Lcom/example/lessor/lessor/protocol/Operation;" (.ref w2)) ∧ (¬ (p1 = (0 : Int32))) ∧ (p1 = (1 : Int32)) ∧ r = some (.ref w2)) ∨ (∃ (w2 : Addr), (Sta Z h0 "com/example/lessor/lessor/protocol/Operation" "UNLINK" "Lcom/example/lessor/lessor/protocol/Operation;" (.ref w2)) ∧ (¬ (p1 = (0 : Int32))) ∧ (¬ (p1 = (1 : Int32))) ∧ (p1 = (2 : Int32)) ∧ r = some (.ref w2)) ∨ (∃ (w2 : Addr), (Sta Z h0 "com/example/lessor/lessor/protocol/Operation" "RMDIR" "Lcom/example/lessor/lessor/protocol/Operation;" (.ref w2)) ∧ (¬ (p1 = (0 : Int32))) ∧ (¬ (p1 = (1 : Int32))) ∧ (¬ (p1 = (2 : Int32))) ∧ (p1 = (3 : Int32)) ∧ r = some (.ref w2)) ∨ (∃ (w2 : Addr), (Sta Z h0 "com/example/lessor/lessor/protocol/Operation" "RENAME" "Lcom/example/lessor/lessor/protocol/Operation;" (.ref w2)) ∧ (¬ (p1 = (0 : Int32))) ∧ (¬ (p1 = (1 : Int32))) ∧ (¬ (p1 = (2 : Int32))) ∧ (¬ (p1 = (3 : Int32))) ∧ (p1 = (4 : Int32)) ∧ r = some (.ref w2)) ∨ (∃ (w2 : Addr), (Sta Z h0 "com/example/lessor/lessor/protocol/Operation" "LIST" "Lcom/example/lessor/lessor/protocol/Operation;" (.ref w2)) ∧ (¬ (p1 = (0 : Int32))) ∧ (¬ (p1 = (1 : Int32))) ∧ (¬ (p1 = (2 : Int32))) ∧ (¬ (p1 = (3 : Int32))) ∧ (¬ (p1 = (4 : Int32))) ∧ (p1 = (5 : Int32)) ∧ r = some (.ref w2)) ∨ (∃ (w2 : Addr), (Sta Z h0 "com/example/lessor/lessor/protocol/Operation" "STAT" "Lcom/example/lessor/lessor/protocol/Operation;" (.ref w2)) ∧ (¬ (p1 = (0 : Int32))) ∧ (¬ (p1 = (1 : Int32))) ∧ (¬ (p1 = (2 : Int32))) ∧ (¬ (p1 = (3 : Int32))) ∧ (¬ (p1 = (4 : Int32))) ∧ (¬ (p1 = (5 : Int32))) ∧ (p1 = (6 : Int32)) ∧ r = some (.ref w2)) ∨ (∃ (w2 : Addr), (Sta Z h0 "com/example/lessor/lessor/protocol/Operation" "IMPORT" "Lcom/example/lessor/lessor/protocol/Operation;" (.ref w2)) ∧ (¬ (p1 = (0 : Int32))) ∧ (¬ (p1 = (1 : Int32))) ∧ (¬ (p1 = (2 : Int32))) ∧ (¬ (p1 = (3 : Int32))) ∧ (¬ (p1 = (4 : Int32))) ∧ (¬ (p1 = (5 : Int32))) ∧ (¬ (p1 = (6 : Int32))) ∧ (p1 = (7 : Int32)) ∧ r = some (.ref w2)) ∨ (∃ (w2 : Addr), (Sta Z h0 "com/example/lessor/lessor/protocol/Operation" "STATS" "Lcom/example/lessor/lessor/protocol/Operation;" (.ref w2)) ∧ (¬ (p1 = (0 : Int32))) ∧ (¬ (p1 = (1 : Int32))) ∧ (¬ (p1 = (2 : Int32))) ∧ (¬ (p1 = (3 : Int32))) ∧ (¬ (p1 = (4 : Int32))) ∧ (¬ (p1 = (5 : Int32))) ∧ (¬ (p1 = (6 : Int32))) ∧ (¬ (p1 = (7 : Int32))) ∧ (p1 = (8 : Int32)) ∧ r = some (.ref w2)) ∨ (∃ (w2 : Addr), (Sta Z h0 "com/example/lessor/lessor/protocol/Operation" "RENEW" "Lcom/example/lessor/lessor/protocol/Operation;" (.ref w2)) ∧ (¬ (p1 = (0 : Int32))) ∧ (¬ (p1 = (1 : Int32))) ∧ (¬ (p1 = (2 : Int32))) ∧ (¬ (p1 = (3 : Int32))) ∧ (¬ (p1 = (4 : Int32))) ∧ (¬ (p1 = (5 : Int32))) ∧ (¬ (p1 = (6 : Int32))) ∧ (¬ (p1 = (7 : Int32))) ∧ (¬ (p1 = (8 : Int32))) ∧ (p1 = (9 : Int32)) ∧ r = some (.ref w2)) ∨ (∃ (w2 : Addr), (Sta Z h0 "com/example/lessor/lessor/protocol/Operation" "RELEASE" "Lcom/example/lessor/lessor/protocol/Operation;" (.ref w2)) ∧ (¬ (p1 = (0 : Int32))) ∧ (¬ (p1 = (1 : Int32))) ∧ (¬ (p1 = (2 : Int32))) ∧ (¬ (p1 = (3 : Int32))) ∧ (¬ (p1 = (4 : Int32))) ∧ (¬ (p1 = (5 : Int32))) ∧ (¬ (p1 = (6 : Int32))) ∧ (¬ (p1 = (7 : Int32))) ∧ (¬ (p1 = (8 : Int32))) ∧ (¬ (p1 = (9 : Int32))) ∧ (p1 = (10 : Int32)) ∧ r = some (.ref w2)) ∨ (∃ (w2 : Addr), (Sta Z h0 "com/example/lessor/lessor/protocol/Operation" "BATCH" "Lcom/example/lessor/lessor/protocol/Operation;" (.ref w2)) ∧ (¬ (p1 = (0 : Int32))) ∧ (¬ (p1 = (1 : Int32))) ∧ (¬ (p1 = (2 : Int32))) ∧ (¬ (p1 = (3 : Int32))) ∧ (¬ (p1 = (4 : Int32))) ∧ (¬ (p1 = (5 : Int32))) ∧ (¬ (p1 = (6 : Int32))) ∧ (¬ (p1 = (7 : Int32))) ∧ (¬ (p1 = (8 : Int32))) ∧ (¬ (p1 = (9 : Int32))) ∧ (¬ (p1 = (10 : Int32))) ∧ (p1 = (11 : Int32)) ∧ r = some (.ref w2)) ∨ (∃ (w2 : Addr), (Sta Z h0 "com/example/lessor/lessor/protocol/Operation" "OPEN" "Lcom/example/lessor/lessor/protocol/Operation;" (.ref w2)) ∧ (¬ (p1 = (0 : Int32))) ∧ (¬ (p1 = (1 : Int32))) ∧ (¬ (p1 = (2 : Int32))) ∧ (¬ (p1 = (3 : Int32))) ∧ (¬ (p1 = (4 : Int32))) ∧ (¬ (p1 = (5 : Int32))) ∧ (¬ (p1 = (6 : Int32))) ∧ (¬ (p1 = (7 : Int32))) ∧ (¬ (p1 = (8 : Int32))) ∧ (¬ (p1 = (9 : Int32))) ∧ (¬ (p1 = (10 : Int32))) ∧ (¬ (p1 = (11 : Int32))) ∧ (p1 = (12 : Int32)) ∧ r = some (.ref w2)) ∨ (∃ (w2 : Addr), (Sta Z h0 "com/example/lessor/lessor/protocol/Operation" "CLOSE" "Lcom/example/lessor/lessor/protocol/Operation;" (.ref w2)) ∧ (¬ (p1 = (0 : Int32))) ∧ (¬ (p1 = (1 : Int32))) ∧ (¬ (p1 = (2 : Int32))) ∧ (¬ (p1 = (3 : Int32))) ∧ (¬ (p1 = (4 : Int32))) ∧ (¬ (p1 = (5 : Int32))) ∧ (¬ (p1 = (6 : Int32))) ∧ (¬ (p1 = (7 : Int32))) ∧ (¬ (p1 = (8 : Int32))) ∧ (¬ (p1 = (9 : Int32))) ∧ (¬ (p1 = (10 : Int32))) ∧ (¬ (p1 = (11 : Int32))) ∧ (¬ (p1 = (12 : Int32))) ∧ r = some (.ref w2))
set_option maxRecDepth 65536 in
set_option maxHeartbeats 40000000 in
theorem own_1 (l : Launch) (Z : State) (a0 : Array Value) (hw : ∀ d ∈ tables_1, d.before a0 Z = true) (ws : List Jvm.Cond) (p1 : Int32) (r : Option Value) (h0 : Heap) (n0 : Nat) (Z0 : n0 ≤ h0.size) (hp : P1 Z h0 p1 r) :
    MetFree l (⟨"com/example/lessor/lessor/protocol/OperationIsBatchedPinLaw", "pick", "(I)Lcom/example/lessor/lessor/protocol/Operation;"⟩ : MethodName) (head1 (Jvm.Cond.code (⟨"com/example/lessor/lessor/protocol/OperationIsBatchedPinLaw", "pick", "(I)Lcom/example/lessor/lessor/protocol/Operation;"⟩ : MethodName) method_2_code 1 (some (.object "com/example/lessor/lessor/protocol/Operation")) :: ws) ({ frames := 0, cells := 0, slots := 0, locals := 0 } : Room)) (fun a U => a = #[(.int p1)] ∧ Z.Warmed39 U.vm ∧ U.heap = h0) (fun _ _ _ _ _ => True) (fun _ U o U' => ∃ v L, o = .returned v ∧ OwnQ r h0 n0 v U'.heap L ∧ FrameEnd U o U' L ({ frames := 0, cells := 0, slots := 0, locals := 0 } : Room).cells ({ frames := 0, cells := 0, slots := 0, locals := 0 } : Room).slots) := by
  rcases hp with ⟨w2, k0, k1, rfl⟩ | ⟨w2, k0, k1, k2, rfl⟩ | ⟨w2, k0, k1, k2, k3, rfl⟩ | ⟨w2, k0, k1, k2, k3, k4, rfl⟩ | ⟨w2, k0, k1, k2, k3, k4, k5, rfl⟩ | ⟨w2, k0, k1, k2, k3, k4, k5, k6, rfl⟩ | ⟨w2, k0, k1, k2, k3, k4, k5, k6, k7, rfl⟩ | ⟨w2, k0, k1, k2, k3, k4, k5, k6, k7, k8, rfl⟩ | ⟨w2, k0, k1, k2, k3, k4, k5, k6, k7, k8, k9, rfl⟩ | ⟨w2, k0, k1, k2, k3, k4, k5, k6, k7, k8, k9, k10, rfl⟩ | ⟨w2, k0, k1, k2, k3, k4, k5, k6, k7, k8, k9, k10, k11, rfl⟩ | ⟨w2, k0, k1, k2, k3, k4, k5, k6, k7, k8, k9, k10, k11, k12, rfl⟩ | ⟨w2, k0, k1, k2, k3, k4, k5, k6, k7, k8, k9, k10, k11, k12, k13, rfl⟩ | ⟨w2, k0, k1, k2, k3, k4, k5, k6, k7, k8, k9, k10, k11, k12, k13, rfl⟩
  · exact rm1_f l Z a0 hw ws p1 w2 h0 n0 Z0 k0 k1
  · exact rm1_tf l Z a0 hw ws p1 w2 h0 n0 Z0 k0 k1 k2
  · exact rm1_ttf l Z a0 hw ws p1 w2 h0 n0 Z0 k0 k1 k2 k3
  · exact rm1_tttf l Z a0 hw ws p1 w2 h0 n0 Z0 k0 k1 k2 k3 k4
  · exact rm1_ttttf l Z a0 hw ws p1 w2 h0 n0 Z0 k0 k1 k2 k3 k4 k5
  · exact rm1_tttttf l Z a0 hw ws p1 w2 h0 n0 Z0 k0 k1 k2 k3 k4 k5 k6
  · exact rm1_ttttttf l Z a0 hw ws p1 w2 h0 n0 Z0 k0 k1 k2 k3 k4 k5 k6 k7
  · exact rm1_tttttttf l Z a0 hw ws p1 w2 h0 n0 Z0 k0 k1 k2 k3 k4 k5 k6 k7 k8
  · exact rm1_ttttttttf l Z a0 hw ws p1 w2 h0 n0 Z0 k0 k1 k2 k3 k4 k5 k6 k7 k8 k9
  · exact rm1_tttttttttf l Z a0 hw ws p1 w2 h0 n0 Z0 k0 k1 k2 k3 k4 k5 k6 k7 k8 k9 k10
  · exact rm1_ttttttttttf l Z a0 hw ws p1 w2 h0 n0 Z0 k0 k1 k2 k3 k4 k5 k6 k7 k8 k9 k10 k11
  · exact rm1_tttttttttttf l Z a0 hw ws p1 w2 h0 n0 Z0 k0 k1 k2 k3 k4 k5 k6 k7 k8 k9 k10 k11 k12
  · exact rm1_ttttttttttttf l Z a0 hw ws p1 w2 h0 n0 Z0 k0 k1 k2 k3 k4 k5 k6 k7 k8 k9 k10 k11 k12 k13
  · exact rm1_ttttttttttttt l Z a0 hw ws p1 w2 h0 n0 Z0 k0 k1 k2 k3 k4 k5 k6 k7 k8 k9 k10 k11 k12 k13
theorem d2_0 : decode prog_33_method_14_code 0 = .ok (.aload_n 0, 1) := by decide +kernel
theorem d2_1 : decode prog_33_method_14_code 1 = .ok (.getstatic 3, 3) := by decide +kernel
theorem d2_4 : decode prog_33_method_14_code 4 = .ok (.if_acmp .eq 31, 3) := by decide +kernel
theorem d2_35 : decode prog_33_method_14_code 35 = .ok (.iconst 1, 1) := by decide +kernel
theorem d2_36 : decode prog_33_method_14_code 36 = .ok (.goto 4, 3) := by decide +kernel
theorem d2_40 : decode prog_33_method_14_code 40 = .ok (.ireturn, 1) := by decide +kernel
theorem pn_2 : plainName "com/example/lessor/lessor/protocol/Operation" = true := by first | (simp [plainName, overriddenIn]; done) | decide +kernel
theorem ef_2 (m : MethodId) (x0 : Addr) : entryFrame m #[(.ref x0)] 1 = mkF m 0 #[.val (.ref x0)] [] := by first | (simp [entryFrame, mkF, argsToLocals, Value.category]; done) | rfl
def Q2_t (Z : State) (a1 : Addr) (w2 : Addr) (h0 : Heap) (n0 : Nat) (v : Option Value) (h : Heap) (L : List Loc) : Prop := v = some (.int (1 : Int32)) ∧ Fr n0 L ∧ h = h0
set_option maxRecDepth 65536 in
set_option maxHeartbeats 40000000 in
theorem rm2_t (l : Launch) (Z : State) (a0 : Array Value) (hw : ∀ d ∈ tables_1, d.before a0 Z = true) (ws : List Jvm.Cond) (a1 : Addr) (w2 : Addr) (h0 : Heap) (n0 : Nat) (Z0 : n0 ≤ h0.size) (S_MKDIR : Sta Z h0 "com/example/lessor/lessor/protocol/Operation" "MKDIR" "Lcom/example/lessor/lessor/protocol/Operation;" (.ref w2)) (ha4 : a1 = w2) :
    MetFree l (⟨"com/example/lessor/lessor/protocol/Operation", "isBatched", "()Z"⟩ : MethodName) (head1 (Jvm.Cond.code (⟨"com/example/lessor/lessor/protocol/Operation", "isBatched", "()Z"⟩ : MethodName) prog_33_method_14_code 1 (some .boolean) :: ws) ({ frames := 0, cells := 0, slots := 0, locals := 0 } : Room)) (fun a U => a = #[(.ref a1)] ∧ Z.Warmed39 U.vm ∧ U.heap = h0) (fun _ _ _ _ _ => True) (fun _ U o U' => ∃ v L, o = .returned v ∧ Q2_t Z a1 w2 h0 n0 v U'.heap L ∧ FrameEnd U o U' L ({ frames := 0, cells := 0, slots := 0, locals := 0 } : Room).cells ({ frames := 0, cells := 0, slots := 0, locals := 0 } : Room).slots) := by
  refine MetFree.of_bodySF (plainFor_of_name pn_2) hisR ?_
  intro p e s m args below meth c s₁ Bd hml0 hP hK
  obtain ⟨rfl, hZ, hh⟩ := hP
  have hx := Bd.exec
  have hby := Bd.bytes
  have hml : c.maxLocals = 1 := hml0
  have hown : s.vm.findClass "com/example/lessor/lessor/protocol/Operation" = some m.cls := findClass_of_methodNamed Bd.named
  have hnm := (name_of_methodNamed Bd.named Bd.method).1
  have X0 : Stand p l e ({ frames := 0, cells := 0, slots := 0, locals := 0 } : Room) s m #[(.ref a1)] below meth c s₁ [] 0 0 := Stand.of_body Bd
  have e0 : s₁.heap = h0 := by rw [← hh, Bd.state]; rfl
  have N0 := Fr.nil n0
  have pre0 : ∀ t, Steps p.tables e below (s₁.setTop (mkF m 0 #[.val (.ref a1)] [])) t → Steps p.tables e below (s₁.setTop (entryFrame m #[(.ref a1)] 1)) t := fun t k => castTop (ef_2 m a1) k
  -- 3. LAWS
  obtain ⟨T3, X3, e3, st3⟩ := getS2 X0 hx hZ hown (host := "") (Or.inl (hw _ (List.mem_of_getElem? (i := 13) rfl))) Via.refl e0 S_MKDIR (g := (mkF m 1 #[.val (.ref a1)] [(.ref a1)])) rfl (hb hby d2_1)
  obtain ⟨fs, hr, hrun, hended, hW, hsame⟩ := X3.leave (v := some (.int (1 : Int32))) (fun h => by rw [Bd.returns] at h; cases h)
  refine ⟨_, _, pre0 _ ?_, hrun, hended, _, _, rfl, ?_, ⟨_, rfl⟩, hW, hsame.mono (by decide) (by decide)⟩
  -- 4. STEPS
  · show Steps p.tables e below (s₁.setTop (mkF m 0 #[.val (.ref a1)] [])) _
    refine XS.aloadN X0.here hx rfl (hb hby d2_0) rfl rfl ?_
    show Steps p.tables e below (s₁.setTop (mkF m 1 #[.val (.ref a1)] [(.ref a1)])) _
    refine st3 _ ?_
    show Steps p.tables e below (T3.setTop (mkF m 4 #[.val (.ref a1)] [(.ref w2), (.ref a1)])) _
    refine Jvm.RoadKit.acmp (g := (mkF m 4 #[.val (.ref a1)] [(.ref w2), (.ref a1)])) X3 hx rfl rfl rfl (pc0 := 4) (pc' := 35) (same := true) rfl (hb hby d2_4) rfl (decide_eq_true (congrArg Value.ref ha4)) (by decide) (by decide) ?_
    show Steps p.tables e below (T3.setTop (mkF m 35 #[.val (.ref a1)] [])) _
    refine XS.iconst X3.here hx rfl (hb hby d2_35) ?_
    show Steps p.tables e below (T3.setTop (mkF m 36 #[.val (.ref a1)] [(.int (1 : Int32))])) _
    refine XS.goto X3.here hx rfl (pc0 := 36) (pc' := 40) rfl (hb hby d2_36) (by decide) (by decide) ?_
    show Steps p.tables e below (T3.setTop (mkF m 40 #[.val (.ref a1)] [(.int (1 : Int32))])) _
    exact retN X3 hx (t := .boolean) Bd.returns (by simp) (hb hby d2_40) hr
  · show Q2_t Z a1 w2 h0 n0 _ T3.heap _
    rw [e3]
    exact ⟨rfl, N0, rfl⟩
theorem d2_7 : decode prog_33_method_14_code 7 = .ok (.aload_n 0, 1) := by decide +kernel
theorem d2_8 : decode prog_33_method_14_code 8 = .ok (.getstatic 7, 3) := by decide +kernel
theorem d2_11 : decode prog_33_method_14_code 11 = .ok (.if_acmp .eq 24, 3) := by decide +kernel
def Q2_ft (Z : State) (a1 : Addr) (w2 : Addr) (w4 : Addr) (h0 : Heap) (n0 : Nat) (v : Option Value) (h : Heap) (L : List Loc) : Prop := v = some (.int (1 : Int32)) ∧ Fr n0 L ∧ h = h0
set_option maxRecDepth 65536 in
set_option maxHeartbeats 40000000 in
theorem rm2_ft (l : Launch) (Z : State) (a0 : Array Value) (hw : ∀ d ∈ tables_1, d.before a0 Z = true) (ws : List Jvm.Cond) (a1 : Addr) (w2 : Addr) (w4 : Addr) (h0 : Heap) (n0 : Nat) (Z0 : n0 ≤ h0.size) (S_MKDIR : Sta Z h0 "com/example/lessor/lessor/protocol/Operation" "MKDIR" "Lcom/example/lessor/lessor/protocol/Operation;" (.ref w2)) (S_CREATE : Sta Z h0 "com/example/lessor/lessor/protocol/Operation" "CREATE" "Lcom/example/lessor/lessor/protocol/Operation;" (.ref w4)) (ha4 : ¬ (a1 = w2)) (ha11 : a1 = w4) :
    MetFree l (⟨"com/example/lessor/lessor/protocol/Operation", "isBatched", "()Z"⟩ : MethodName) (head1 (Jvm.Cond.code (⟨"com/example/lessor/lessor/protocol/Operation", "isBatched", "()Z"⟩ : MethodName) prog_33_method_14_code 1 (some .boolean) :: ws) ({ frames := 0, cells := 0, slots := 0, locals := 0 } : Room)) (fun a U => a = #[(.ref a1)] ∧ Z.Warmed39 U.vm ∧ U.heap = h0) (fun _ _ _ _ _ => True) (fun _ U o U' => ∃ v L, o = .returned v ∧ Q2_ft Z a1 w2 w4 h0 n0 v U'.heap L ∧ FrameEnd U o U' L ({ frames := 0, cells := 0, slots := 0, locals := 0 } : Room).cells ({ frames := 0, cells := 0, slots := 0, locals := 0 } : Room).slots) := by
  refine MetFree.of_bodySF (plainFor_of_name pn_2) hisR ?_
  intro p e s m args below meth c s₁ Bd hml0 hP hK
  obtain ⟨rfl, hZ, hh⟩ := hP
  have hx := Bd.exec
  have hby := Bd.bytes
  have hml : c.maxLocals = 1 := hml0
  have hown : s.vm.findClass "com/example/lessor/lessor/protocol/Operation" = some m.cls := findClass_of_methodNamed Bd.named
  have hnm := (name_of_methodNamed Bd.named Bd.method).1
  have X0 : Stand p l e ({ frames := 0, cells := 0, slots := 0, locals := 0 } : Room) s m #[(.ref a1)] below meth c s₁ [] 0 0 := Stand.of_body Bd
  have e0 : s₁.heap = h0 := by rw [← hh, Bd.state]; rfl
  have N0 := Fr.nil n0
  have pre0 : ∀ t, Steps p.tables e below (s₁.setTop (mkF m 0 #[.val (.ref a1)] [])) t → Steps p.tables e below (s₁.setTop (entryFrame m #[(.ref a1)] 1)) t := fun t k => castTop (ef_2 m a1) k
  -- 3. LAWS
  obtain ⟨T3, X3, e3, st3⟩ := getS2 X0 hx hZ hown (host := "") (Or.inl (hw _ (List.mem_of_getElem? (i := 13) rfl))) Via.refl e0 S_MKDIR (g := (mkF m 1 #[.val (.ref a1)] [(.ref a1)])) rfl (hb hby d2_1)
  obtain ⟨T5, X5, e5, st5⟩ := getS2 X3 hx hZ hown (host := "") (Or.inl (hw _ (List.mem_of_getElem? (i := 40) rfl))) Via.refl e3 S_CREATE (g := (mkF m 8 #[.val (.ref a1)] [(.ref a1)])) rfl (hb hby d2_8)
  obtain ⟨fs, hr, hrun, hended, hW, hsame⟩ := X5.leave (v := some (.int (1 : Int32))) (fun h => by rw [Bd.returns] at h; cases h)
  refine ⟨_, _, pre0 _ ?_, hrun, hended, _, _, rfl, ?_, ⟨_, rfl⟩, hW, hsame.mono (by decide) (by decide)⟩
  -- 4. STEPS
  · show Steps p.tables e below (s₁.setTop (mkF m 0 #[.val (.ref a1)] [])) _
    refine XS.aloadN X0.here hx rfl (hb hby d2_0) rfl rfl ?_
    show Steps p.tables e below (s₁.setTop (mkF m 1 #[.val (.ref a1)] [(.ref a1)])) _
    refine st3 _ ?_
    show Steps p.tables e below (T3.setTop (mkF m 4 #[.val (.ref a1)] [(.ref w2), (.ref a1)])) _
    refine Jvm.RoadKit.acmp (g := (mkF m 4 #[.val (.ref a1)] [(.ref w2), (.ref a1)])) X3 hx rfl rfl rfl (pc0 := 4) (pc' := 7) (same := false) rfl (hb hby d2_4) rfl (decide_eq_false fun q => ha4 (Value.ref.inj q)) (by decide) (by decide) ?_
    show Steps p.tables e below (T3.setTop (mkF m 7 #[.val (.ref a1)] [])) _
    refine XS.aloadN X3.here hx rfl (hb hby d2_7) rfl rfl ?_
    show Steps p.tables e below (T3.setTop (mkF m 8 #[.val (.ref a1)] [(.ref a1)])) _
    refine st5 _ ?_
    show Steps p.tables e below (T5.setTop (mkF m 11 #[.val (.ref a1)] [(.ref w4), (.ref a1)])) _
    refine Jvm.RoadKit.acmp (g := (mkF m 11 #[.val (.ref a1)] [(.ref w4), (.ref a1)])) X5 hx rfl rfl rfl (pc0 := 11) (pc' := 35) (same := true) rfl (hb hby d2_11) rfl (decide_eq_true (congrArg Value.ref ha11)) (by decide) (by decide) ?_
    show Steps p.tables e below (T5.setTop (mkF m 35 #[.val (.ref a1)] [])) _
    refine XS.iconst X5.here hx rfl (hb hby d2_35) ?_
    show Steps p.tables e below (T5.setTop (mkF m 36 #[.val (.ref a1)] [(.int (1 : Int32))])) _
    refine XS.goto X5.here hx rfl (pc0 := 36) (pc' := 40) rfl (hb hby d2_36) (by decide) (by decide) ?_
    show Steps p.tables e below (T5.setTop (mkF m 40 #[.val (.ref a1)] [(.int (1 : Int32))])) _
    exact retN X5 hx (t := .boolean) Bd.returns (by simp) (hb hby d2_40) hr
  · show Q2_ft Z a1 w2 w4 h0 n0 _ T5.heap _
    rw [e5]
    exact ⟨rfl, N0, rfl⟩
theorem d2_14 : decode prog_33_method_14_code 14 = .ok (.aload_n 0, 1) := by decide +kernel
theorem d2_15 : decode prog_33_method_14_code 15 = .ok (.getstatic 10, 3) := by decide +kernel
theorem d2_18 : decode prog_33_method_14_code 18 = .ok (.if_acmp .eq 17, 3) := by decide +kernel
def Q2_fft (Z : State) (a1 : Addr) (w2 : Addr) (w4 : Addr) (w6 : Addr) (h0 : Heap) (n0 : Nat) (v : Option Value) (h : Heap) (L : List Loc) : Prop := v = some (.int (1 : Int32)) ∧ Fr n0 L ∧ h = h0
set_option maxRecDepth 65536 in
set_option maxHeartbeats 40000000 in
theorem rm2_fft (l : Launch) (Z : State) (a0 : Array Value) (hw : ∀ d ∈ tables_1, d.before a0 Z = true) (ws : List Jvm.Cond) (a1 : Addr) (w2 : Addr) (w4 : Addr) (w6 : Addr) (h0 : Heap) (n0 : Nat) (Z0 : n0 ≤ h0.size) (S_MKDIR : Sta Z h0 "com/example/lessor/lessor/protocol/Operation" "MKDIR" "Lcom/example/lessor/lessor/protocol/Operation;" (.ref w2)) (S_CREATE : Sta Z h0 "com/example/lessor/lessor/protocol/Operation" "CREATE" "Lcom/example/lessor/lessor/protocol/Operation;" (.ref w4)) (S_UNLINK : Sta Z h0 "com/example/lessor/lessor/protocol/Operation" "UNLINK" "Lcom/example/lessor/lessor/protocol/Operation;" (.ref w6)) (ha4 : ¬ (a1 = w2)) (ha11 : ¬ (a1 = w4)) (ha18 : a1 = w6) :
    MetFree l (⟨"com/example/lessor/lessor/protocol/Operation", "isBatched", "()Z"⟩ : MethodName) (head1 (Jvm.Cond.code (⟨"com/example/lessor/lessor/protocol/Operation", "isBatched", "()Z"⟩ : MethodName) prog_33_method_14_code 1 (some .boolean) :: ws) ({ frames := 0, cells := 0, slots := 0, locals := 0 } : Room)) (fun a U => a = #[(.ref a1)] ∧ Z.Warmed39 U.vm ∧ U.heap = h0) (fun _ _ _ _ _ => True) (fun _ U o U' => ∃ v L, o = .returned v ∧ Q2_fft Z a1 w2 w4 w6 h0 n0 v U'.heap L ∧ FrameEnd U o U' L ({ frames := 0, cells := 0, slots := 0, locals := 0 } : Room).cells ({ frames := 0, cells := 0, slots := 0, locals := 0 } : Room).slots) := by
  refine MetFree.of_bodySF (plainFor_of_name pn_2) hisR ?_
  intro p e s m args below meth c s₁ Bd hml0 hP hK
  obtain ⟨rfl, hZ, hh⟩ := hP
  have hx := Bd.exec
  have hby := Bd.bytes
  have hml : c.maxLocals = 1 := hml0
  have hown : s.vm.findClass "com/example/lessor/lessor/protocol/Operation" = some m.cls := findClass_of_methodNamed Bd.named
  have hnm := (name_of_methodNamed Bd.named Bd.method).1
  have X0 : Stand p l e ({ frames := 0, cells := 0, slots := 0, locals := 0 } : Room) s m #[(.ref a1)] below meth c s₁ [] 0 0 := Stand.of_body Bd
  have e0 : s₁.heap = h0 := by rw [← hh, Bd.state]; rfl
  have N0 := Fr.nil n0
  have pre0 : ∀ t, Steps p.tables e below (s₁.setTop (mkF m 0 #[.val (.ref a1)] [])) t → Steps p.tables e below (s₁.setTop (entryFrame m #[(.ref a1)] 1)) t := fun t k => castTop (ef_2 m a1) k
  -- 3. LAWS
  obtain ⟨T3, X3, e3, st3⟩ := getS2 X0 hx hZ hown (host := "") (Or.inl (hw _ (List.mem_of_getElem? (i := 13) rfl))) Via.refl e0 S_MKDIR (g := (mkF m 1 #[.val (.ref a1)] [(.ref a1)])) rfl (hb hby d2_1)
  obtain ⟨T5, X5, e5, st5⟩ := getS2 X3 hx hZ hown (host := "") (Or.inl (hw _ (List.mem_of_getElem? (i := 40) rfl))) Via.refl e3 S_CREATE (g := (mkF m 8 #[.val (.ref a1)] [(.ref a1)])) rfl (hb hby d2_8)
  obtain ⟨T7, X7, e7, st7⟩ := getS2 X5 hx hZ hown (host := "") (Or.inl (hw _ (List.mem_of_getElem? (i := 42) rfl))) Via.refl e5 S_UNLINK (g := (mkF m 15 #[.val (.ref a1)] [(.ref a1)])) rfl (hb hby d2_15)
  obtain ⟨fs, hr, hrun, hended, hW, hsame⟩ := X7.leave (v := some (.int (1 : Int32))) (fun h => by rw [Bd.returns] at h; cases h)
  refine ⟨_, _, pre0 _ ?_, hrun, hended, _, _, rfl, ?_, ⟨_, rfl⟩, hW, hsame.mono (by decide) (by decide)⟩
  -- 4. STEPS
  · show Steps p.tables e below (s₁.setTop (mkF m 0 #[.val (.ref a1)] [])) _
    refine XS.aloadN X0.here hx rfl (hb hby d2_0) rfl rfl ?_
    show Steps p.tables e below (s₁.setTop (mkF m 1 #[.val (.ref a1)] [(.ref a1)])) _
    refine st3 _ ?_
    show Steps p.tables e below (T3.setTop (mkF m 4 #[.val (.ref a1)] [(.ref w2), (.ref a1)])) _
    refine Jvm.RoadKit.acmp (g := (mkF m 4 #[.val (.ref a1)] [(.ref w2), (.ref a1)])) X3 hx rfl rfl rfl (pc0 := 4) (pc' := 7) (same := false) rfl (hb hby d2_4) rfl (decide_eq_false fun q => ha4 (Value.ref.inj q)) (by decide) (by decide) ?_
    show Steps p.tables e below (T3.setTop (mkF m 7 #[.val (.ref a1)] [])) _
    refine XS.aloadN X3.here hx rfl (hb hby d2_7) rfl rfl ?_
    show Steps p.tables e below (T3.setTop (mkF m 8 #[.val (.ref a1)] [(.ref a1)])) _
    refine st5 _ ?_
    show Steps p.tables e below (T5.setTop (mkF m 11 #[.val (.ref a1)] [(.ref w4), (.ref a1)])) _
    refine Jvm.RoadKit.acmp (g := (mkF m 11 #[.val (.ref a1)] [(.ref w4), (.ref a1)])) X5 hx rfl rfl rfl (pc0 := 11) (pc' := 14) (same := false) rfl (hb hby d2_11) rfl (decide_eq_false fun q => ha11 (Value.ref.inj q)) (by decide) (by decide) ?_
    show Steps p.tables e below (T5.setTop (mkF m 14 #[.val (.ref a1)] [])) _
    refine XS.aloadN X5.here hx rfl (hb hby d2_14) rfl rfl ?_
    show Steps p.tables e below (T5.setTop (mkF m 15 #[.val (.ref a1)] [(.ref a1)])) _
    refine st7 _ ?_
    show Steps p.tables e below (T7.setTop (mkF m 18 #[.val (.ref a1)] [(.ref w6), (.ref a1)])) _
    refine Jvm.RoadKit.acmp (g := (mkF m 18 #[.val (.ref a1)] [(.ref w6), (.ref a1)])) X7 hx rfl rfl rfl (pc0 := 18) (pc' := 35) (same := true) rfl (hb hby d2_18) rfl (decide_eq_true (congrArg Value.ref ha18)) (by decide) (by decide) ?_
    show Steps p.tables e below (T7.setTop (mkF m 35 #[.val (.ref a1)] [])) _
    refine XS.iconst X7.here hx rfl (hb hby d2_35) ?_
    show Steps p.tables e below (T7.setTop (mkF m 36 #[.val (.ref a1)] [(.int (1 : Int32))])) _
    refine XS.goto X7.here hx rfl (pc0 := 36) (pc' := 40) rfl (hb hby d2_36) (by decide) (by decide) ?_
    show Steps p.tables e below (T7.setTop (mkF m 40 #[.val (.ref a1)] [(.int (1 : Int32))])) _
    exact retN X7 hx (t := .boolean) Bd.returns (by simp) (hb hby d2_40) hr
  · show Q2_fft Z a1 w2 w4 w6 h0 n0 _ T7.heap _
    rw [e7]
    exact ⟨rfl, N0, rfl⟩
theorem d2_21 : decode prog_33_method_14_code 21 = .ok (.aload_n 0, 1) := by decide +kernel
theorem d2_22 : decode prog_33_method_14_code 22 = .ok (.getstatic 13, 3) := by decide +kernel
theorem d2_25 : decode prog_33_method_14_code 25 = .ok (.if_acmp .eq 10, 3) := by decide +kernel
def Q2_ffft (Z : State) (a1 : Addr) (w2 : Addr) (w4 : Addr) (w6 : Addr) (w8 : Addr) (h0 : Heap) (n0 : Nat) (v : Option Value) (h : Heap) (L : List Loc) : Prop := v = some (.int (1 : Int32)) ∧ Fr n0 L ∧ h = h0
set_option maxRecDepth 65536 in
set_option maxHeartbeats 40000000 in
theorem rm2_ffft (l : Launch) (Z : State) (a0 : Array Value) (hw : ∀ d ∈ tables_1, d.before a0 Z = true) (ws : List Jvm.Cond) (a1 : Addr) (w2 : Addr) (w4 : Addr) (w6 : Addr) (w8 : Addr) (h0 : Heap) (n0 : Nat) (Z0 : n0 ≤ h0.size) (S_MKDIR : Sta Z h0 "com/example/lessor/lessor/protocol/Operation" "MKDIR" "Lcom/example/lessor/lessor/protocol/Operation;" (.ref w2)) (S_CREATE : Sta Z h0 "com/example/lessor/lessor/protocol/Operation" "CREATE" "Lcom/example/lessor/lessor/protocol/Operation;" (.ref w4)) (S_UNLINK : Sta Z h0 "com/example/lessor/lessor/protocol/Operation" "UNLINK" "Lcom/example/lessor/lessor/protocol/Operation;" (.ref w6)) (S_RMDIR : Sta Z h0 "com/example/lessor/lessor/protocol/Operation" "RMDIR" "Lcom/example/lessor/lessor/protocol/Operation;" (.ref w8)) (ha4 : ¬ (a1 = w2)) (ha11 : ¬ (a1 = w4)) (ha18 : ¬ (a1 = w6)) (ha25 : a1 = w8) :
    MetFree l (⟨"com/example/lessor/lessor/protocol/Operation", "isBatched", "()Z"⟩ : MethodName) (head1 (Jvm.Cond.code (⟨"com/example/lessor/lessor/protocol/Operation", "isBatched", "()Z"⟩ : MethodName) prog_33_method_14_code 1 (some .boolean) :: ws) ({ frames := 0, cells := 0, slots := 0, locals := 0 } : Room)) (fun a U => a = #[(.ref a1)] ∧ Z.Warmed39 U.vm ∧ U.heap = h0) (fun _ _ _ _ _ => True) (fun _ U o U' => ∃ v L, o = .returned v ∧ Q2_ffft Z a1 w2 w4 w6 w8 h0 n0 v U'.heap L ∧ FrameEnd U o U' L ({ frames := 0, cells := 0, slots := 0, locals := 0 } : Room).cells ({ frames := 0, cells := 0, slots := 0, locals := 0 } : Room).slots) := by
  refine MetFree.of_bodySF (plainFor_of_name pn_2) hisR ?_
  intro p e s m args below meth c s₁ Bd hml0 hP hK
  obtain ⟨rfl, hZ, hh⟩ := hP
  have hx := Bd.exec
  have hby := Bd.bytes
  have hml : c.maxLocals = 1 := hml0
  have hown : s.vm.findClass "com/example/lessor/lessor/protocol/Operation" = some m.cls := findClass_of_methodNamed Bd.named
  have hnm := (name_of_methodNamed Bd.named Bd.method).1
  have X0 : Stand p l e ({ frames := 0, cells := 0, slots := 0, locals := 0 } : Room) s m #[(.ref a1)] below meth c s₁ [] 0 0 := Stand.of_body Bd
  have e0 : s₁.heap = h0 := by rw [← hh, Bd.state]; rfl
  have N0 := Fr.nil n0
  have pre0 : ∀ t, Steps p.tables e below (s₁.setTop (mkF m 0 #[.val (.ref a1)] [])) t → Steps p.tables e below (s₁.setTop (entryFrame m #[(.ref a1)] 1)) t := fun t k => castTop (ef_2 m a1) k
  -- 3. LAWS
  obtain ⟨T3, X3, e3, st3⟩ := getS2 X0 hx hZ hown (host := "") (Or.inl (hw _ (List.mem_of_getElem? (i := 13) rfl))) Via.refl e0 S_MKDIR (g := (mkF m 1 #[.val (.ref a1)] [(.ref a1)])) rfl (hb hby d2_1)
  obtain ⟨T5, X5, e5, st5⟩ := getS2 X3 hx hZ hown (host := "") (Or.inl (hw _ (List.mem_of_getElem? (i := 40) rfl))) Via.refl e3 S_CREATE (g := (mkF m 8 #[.val (.ref a1)] [(.ref a1)])) rfl (hb hby d2_8)
  obtain ⟨T7, X7, e7, st7⟩ := getS2 X5 hx hZ hown (host := "") (Or.inl (hw _ (List.mem_of_getElem? (i := 42) rfl))) Via.refl e5 S_UNLINK (g := (mkF m 15 #[.val (.ref a1)] [(.ref a1)])) rfl (hb hby d2_15)
  obtain ⟨T9, X9, e9, st9⟩ := getS2 X7 hx hZ hown (host := "") (Or.inl (hw _ (List.mem_of_getElem? (i := 44) rfl))) Via.refl e7 S_RMDIR (g := (mkF m 22 #[.val (.ref a1)] [(.ref a1)])) rfl (hb hby d2_22)
  obtain ⟨fs, hr, hrun, hended, hW, hsame⟩ := X9.leave (v := some (.int (1 : Int32))) (fun h => by rw [Bd.returns] at h; cases h)
  refine ⟨_, _, pre0 _ ?_, hrun, hended, _, _, rfl, ?_, ⟨_, rfl⟩, hW, hsame.mono (by decide) (by decide)⟩
  -- 4. STEPS
  · show Steps p.tables e below (s₁.setTop (mkF m 0 #[.val (.ref a1)] [])) _
    refine XS.aloadN X0.here hx rfl (hb hby d2_0) rfl rfl ?_
    show Steps p.tables e below (s₁.setTop (mkF m 1 #[.val (.ref a1)] [(.ref a1)])) _
    refine st3 _ ?_
    show Steps p.tables e below (T3.setTop (mkF m 4 #[.val (.ref a1)] [(.ref w2), (.ref a1)])) _
    refine Jvm.RoadKit.acmp (g := (mkF m 4 #[.val (.ref a1)] [(.ref w2), (.ref a1)])) X3 hx rfl rfl rfl (pc0 := 4) (pc' := 7) (same := false) rfl (hb hby d2_4) rfl (decide_eq_false fun q => ha4 (Value.ref.inj q)) (by decide) (by decide) ?_
    show Steps p.tables e below (T3.setTop (mkF m 7 #[.val (.ref a1)] [])) _
    refine XS.aloadN X3.here hx rfl (hb hby d2_7) rfl rfl ?_
    show Steps p.tables e below (T3.setTop (mkF m 8 #[.val (.ref a1)] [(.ref a1)])) _
    refine st5 _ ?_
    show Steps p.tables e below (T5.setTop (mkF m 11 #[.val (.ref a1)] [(.ref w4), (.ref a1)])) _
    refine Jvm.RoadKit.acmp (g := (mkF m 11 #[.val (.ref a1)] [(.ref w4), (.ref a1)])) X5 hx rfl rfl rfl (pc0 := 11) (pc' := 14) (same := false) rfl (hb hby d2_11) rfl (decide_eq_false fun q => ha11 (Value.ref.inj q)) (by decide) (by decide) ?_
    show Steps p.tables e below (T5.setTop (mkF m 14 #[.val (.ref a1)] [])) _
    refine XS.aloadN X5.here hx rfl (hb hby d2_14) rfl rfl ?_
    show Steps p.tables e below (T5.setTop (mkF m 15 #[.val (.ref a1)] [(.ref a1)])) _
    refine st7 _ ?_
    show Steps p.tables e below (T7.setTop (mkF m 18 #[.val (.ref a1)] [(.ref w6), (.ref a1)])) _
    refine Jvm.RoadKit.acmp (g := (mkF m 18 #[.val (.ref a1)] [(.ref w6), (.ref a1)])) X7 hx rfl rfl rfl (pc0 := 18) (pc' := 21) (same := false) rfl (hb hby d2_18) rfl (decide_eq_false fun q => ha18 (Value.ref.inj q)) (by decide) (by decide) ?_
    show Steps p.tables e below (T7.setTop (mkF m 21 #[.val (.ref a1)] [])) _
    refine XS.aloadN X7.here hx rfl (hb hby d2_21) rfl rfl ?_
    show Steps p.tables e below (T7.setTop (mkF m 22 #[.val (.ref a1)] [(.ref a1)])) _
    refine st9 _ ?_
    show Steps p.tables e below (T9.setTop (mkF m 25 #[.val (.ref a1)] [(.ref w8), (.ref a1)])) _
    refine Jvm.RoadKit.acmp (g := (mkF m 25 #[.val (.ref a1)] [(.ref w8), (.ref a1)])) X9 hx rfl rfl rfl (pc0 := 25) (pc' := 35) (same := true) rfl (hb hby d2_25) rfl (decide_eq_true (congrArg Value.ref ha25)) (by decide) (by decide) ?_
    show Steps p.tables e below (T9.setTop (mkF m 35 #[.val (.ref a1)] [])) _
    refine XS.iconst X9.here hx rfl (hb hby d2_35) ?_
    show Steps p.tables e below (T9.setTop (mkF m 36 #[.val (.ref a1)] [(.int (1 : Int32))])) _
    refine XS.goto X9.here hx rfl (pc0 := 36) (pc' := 40) rfl (hb hby d2_36) (by decide) (by decide) ?_
    show Steps p.tables e below (T9.setTop (mkF m 40 #[.val (.ref a1)] [(.int (1 : Int32))])) _
    exact retN X9 hx (t := .boolean) Bd.returns (by simp) (hb hby d2_40) hr
  · show Q2_ffft Z a1 w2 w4 w6 w8 h0 n0 _ T9.heap _
    rw [e9]
    exact ⟨rfl, N0, rfl⟩
theorem d2_28 : decode prog_33_method_14_code 28 = .ok (.aload_n 0, 1) := by decide +kernel
theorem d2_29 : decode prog_33_method_14_code 29 = .ok (.getstatic 16, 3) := by decide +kernel
theorem d2_32 : decode prog_33_method_14_code 32 = .ok (.if_acmp .ne 7, 3) := by decide +kernel
def Q2_fffff (Z : State) (a1 : Addr) (w2 : Addr) (w4 : Addr) (w6 : Addr) (w8 : Addr) (w10 : Addr) (h0 : Heap) (n0 : Nat) (v : Option Value) (h : Heap) (L : List Loc) : Prop := v = some (.int (1 : Int32)) ∧ Fr n0 L ∧ h = h0
set_option maxRecDepth 65536 in
set_option maxHeartbeats 40000000 in
theorem rm2_fffff (l : Launch) (Z : State) (a0 : Array Value) (hw : ∀ d ∈ tables_1, d.before a0 Z = true) (ws : List Jvm.Cond) (a1 : Addr) (w2 : Addr) (w4 : Addr) (w6 : Addr) (w8 : Addr) (w10 : Addr) (h0 : Heap) (n0 : Nat) (Z0 : n0 ≤ h0.size) (S_MKDIR : Sta Z h0 "com/example/lessor/lessor/protocol/Operation" "MKDIR" "Lcom/example/lessor/lessor/protocol/Operation;" (.ref w2)) (S_CREATE : Sta Z h0 "com/example/lessor/lessor/protocol/Operation" "CREATE" "Lcom/example/lessor/lessor/protocol/Operation;" (.ref w4)) (S_UNLINK : Sta Z h0 "com/example/lessor/lessor/protocol/Operation" "UNLINK" "Lcom/example/lessor/lessor/protocol/Operation;" (.ref w6)) (S_RMDIR : Sta Z h0 "com/example/lessor/lessor/protocol/Operation" "RMDIR" "Lcom/example/lessor/lessor/protocol/Operation;" (.ref w8)) (S_RENAME : Sta Z h0 "com/example/lessor/lessor/protocol/Operation" "RENAME" "Lcom/example/lessor/lessor/protocol/Operation;" (.ref w10)) (ha4 : ¬ (a1 = w2)) (ha11 : ¬ (a1 = w4)) (ha18 : ¬ (a1 = w6)) (ha25 : ¬ (a1 = w8)) (ha32 : a1 = w10) :
    MetFree l (⟨"com/example/lessor/lessor/protocol/Operation", "isBatched", "()Z"⟩ : MethodName) (head1 (Jvm.Cond.code (⟨"com/example/lessor/lessor/protocol/Operation", "isBatched", "()Z"⟩ : MethodName) prog_33_method_14_code 1 (some .boolean) :: ws) ({ frames := 0, cells := 0, slots := 0, locals := 0 } : Room)) (fun a U => a = #[(.ref a1)] ∧ Z.Warmed39 U.vm ∧ U.heap = h0) (fun _ _ _ _ _ => True) (fun _ U o U' => ∃ v L, o = .returned v ∧ Q2_fffff Z a1 w2 w4 w6 w8 w10 h0 n0 v U'.heap L ∧ FrameEnd U o U' L ({ frames := 0, cells := 0, slots := 0, locals := 0 } : Room).cells ({ frames := 0, cells := 0, slots := 0, locals := 0 } : Room).slots) := by
  refine MetFree.of_bodySF (plainFor_of_name pn_2) hisR ?_
  intro p e s m args below meth c s₁ Bd hml0 hP hK
  obtain ⟨rfl, hZ, hh⟩ := hP
  have hx := Bd.exec
  have hby := Bd.bytes
  have hml : c.maxLocals = 1 := hml0
  have hown : s.vm.findClass "com/example/lessor/lessor/protocol/Operation" = some m.cls := findClass_of_methodNamed Bd.named
  have hnm := (name_of_methodNamed Bd.named Bd.method).1
  have X0 : Stand p l e ({ frames := 0, cells := 0, slots := 0, locals := 0 } : Room) s m #[(.ref a1)] below meth c s₁ [] 0 0 := Stand.of_body Bd
  have e0 : s₁.heap = h0 := by rw [← hh, Bd.state]; rfl
  have N0 := Fr.nil n0
  have pre0 : ∀ t, Steps p.tables e below (s₁.setTop (mkF m 0 #[.val (.ref a1)] [])) t → Steps p.tables e below (s₁.setTop (entryFrame m #[(.ref a1)] 1)) t := fun t k => castTop (ef_2 m a1) k
  -- 3. LAWS
  obtain ⟨T3, X3, e3, st3⟩ := getS2 X0 hx hZ hown (host := "") (Or.inl (hw _ (List.mem_of_getElem? (i := 13) rfl))) Via.refl e0 S_MKDIR (g := (mkF m 1 #[.val (.ref a1)] [(.ref a1)])) rfl (hb hby d2_1)
  obtain ⟨T5, X5, e5, st5⟩ := getS2 X3 hx hZ hown (host := "") (Or.inl (hw _ (List.mem_of_getElem? (i := 40) rfl))) Via.refl e3 S_CREATE (g := (mkF m 8 #[.val (.ref a1)] [(.ref a1)])) rfl (hb hby d2_8)
  obtain ⟨T7, X7, e7, st7⟩ := getS2 X5 hx hZ hown (host := "") (Or.inl (hw _ (List.mem_of_getElem? (i := 42) rfl))) Via.refl e5 S_UNLINK (g := (mkF m 15 #[.val (.ref a1)] [(.ref a1)])) rfl (hb hby d2_15)
  obtain ⟨T9, X9, e9, st9⟩ := getS2 X7 hx hZ hown (host := "") (Or.inl (hw _ (List.mem_of_getElem? (i := 44) rfl))) Via.refl e7 S_RMDIR (g := (mkF m 22 #[.val (.ref a1)] [(.ref a1)])) rfl (hb hby d2_22)
  obtain ⟨T11, X11, e11, st11⟩ := getS2 X9 hx hZ hown (host := "") (Or.inl (hw _ (List.mem_of_getElem? (i := 47) rfl))) Via.refl e9 S_RENAME (g := (mkF m 29 #[.val (.ref a1)] [(.ref a1)])) rfl (hb hby d2_29)
  obtain ⟨fs, hr, hrun, hended, hW, hsame⟩ := X11.leave (v := some (.int (1 : Int32))) (fun h => by rw [Bd.returns] at h; cases h)
  refine ⟨_, _, pre0 _ ?_, hrun, hended, _, _, rfl, ?_, ⟨_, rfl⟩, hW, hsame.mono (by decide) (by decide)⟩
  -- 4. STEPS
  · show Steps p.tables e below (s₁.setTop (mkF m 0 #[.val (.ref a1)] [])) _
    refine XS.aloadN X0.here hx rfl (hb hby d2_0) rfl rfl ?_
    show Steps p.tables e below (s₁.setTop (mkF m 1 #[.val (.ref a1)] [(.ref a1)])) _
    refine st3 _ ?_
    show Steps p.tables e below (T3.setTop (mkF m 4 #[.val (.ref a1)] [(.ref w2), (.ref a1)])) _
    refine Jvm.RoadKit.acmp (g := (mkF m 4 #[.val (.ref a1)] [(.ref w2), (.ref a1)])) X3 hx rfl rfl rfl (pc0 := 4) (pc' := 7) (same := false) rfl (hb hby d2_4) rfl (decide_eq_false fun q => ha4 (Value.ref.inj q)) (by decide) (by decide) ?_
    show Steps p.tables e below (T3.setTop (mkF m 7 #[.val (.ref a1)] [])) _
    refine XS.aloadN X3.here hx rfl (hb hby d2_7) rfl rfl ?_
    show Steps p.tables e below (T3.setTop (mkF m 8 #[.val (.ref a1)] [(.ref a1)])) _
    refine st5 _ ?_
    show Steps p.tables e below (T5.setTop (mkF m 11 #[.val (.ref a1)] [(.ref w4), (.ref a1)])) _
    refine Jvm.RoadKit.acmp (g := (mkF m 11 #[.val (.ref a1)] [(.ref w4), (.ref a1)])) X5 hx rfl rfl rfl (pc0 := 11) (pc' := 14) (same := false) rfl (hb hby d2_11) rfl (decide_eq_false fun q => ha11 (Value.ref.inj q)) (by decide) (by decide) ?_
    show Steps p.tables e below (T5.setTop (mkF m 14 #[.val (.ref a1)] [])) _
    refine XS.aloadN X5.here hx rfl (hb hby d2_14) rfl rfl ?_
    show Steps p.tables e below (T5.setTop (mkF m 15 #[.val (.ref a1)] [(.ref a1)])) _
    refine st7 _ ?_
    show Steps p.tables e below (T7.setTop (mkF m 18 #[.val (.ref a1)] [(.ref w6), (.ref a1)])) _
    refine Jvm.RoadKit.acmp (g := (mkF m 18 #[.val (.ref a1)] [(.ref w6), (.ref a1)])) X7 hx rfl rfl rfl (pc0 := 18) (pc' := 21) (same := false) rfl (hb hby d2_18) rfl (decide_eq_false fun q => ha18 (Value.ref.inj q)) (by decide) (by decide) ?_
    show Steps p.tables e below (T7.setTop (mkF m 21 #[.val (.ref a1)] [])) _
    refine XS.aloadN X7.here hx rfl (hb hby d2_21) rfl rfl ?_
    show Steps p.tables e below (T7.setTop (mkF m 22 #[.val (.ref a1)] [(.ref a1)])) _
    refine st9 _ ?_
    show Steps p.tables e below (T9.setTop (mkF m 25 #[.val (.ref a1)] [(.ref w8), (.ref a1)])) _
    refine Jvm.RoadKit.acmp (g := (mkF m 25 #[.val (.ref a1)] [(.ref w8), (.ref a1)])) X9 hx rfl rfl rfl (pc0 := 25) (pc' := 28) (same := false) rfl (hb hby d2_25) rfl (decide_eq_false fun q => ha25 (Value.ref.inj q)) (by decide) (by decide) ?_
    show Steps p.tables e below (T9.setTop (mkF m 28 #[.val (.ref a1)] [])) _
    refine XS.aloadN X9.here hx rfl (hb hby d2_28) rfl rfl ?_
    show Steps p.tables e below (T9.setTop (mkF m 29 #[.val (.ref a1)] [(.ref a1)])) _
    refine st11 _ ?_
    show Steps p.tables e below (T11.setTop (mkF m 32 #[.val (.ref a1)] [(.ref w10), (.ref a1)])) _
    refine Jvm.RoadKit.acmp (g := (mkF m 32 #[.val (.ref a1)] [(.ref w10), (.ref a1)])) X11 hx rfl rfl rfl (pc0 := 32) (pc' := 35) (same := true) rfl (hb hby d2_32) rfl (decide_eq_true (congrArg Value.ref ha32)) (by decide) (by decide) ?_
    show Steps p.tables e below (T11.setTop (mkF m 35 #[.val (.ref a1)] [])) _
    refine XS.iconst X11.here hx rfl (hb hby d2_35) ?_
    show Steps p.tables e below (T11.setTop (mkF m 36 #[.val (.ref a1)] [(.int (1 : Int32))])) _
    refine XS.goto X11.here hx rfl (pc0 := 36) (pc' := 40) rfl (hb hby d2_36) (by decide) (by decide) ?_
    show Steps p.tables e below (T11.setTop (mkF m 40 #[.val (.ref a1)] [(.int (1 : Int32))])) _
    exact retN X11 hx (t := .boolean) Bd.returns (by simp) (hb hby d2_40) hr
  · show Q2_fffff Z a1 w2 w4 w6 w8 w10 h0 n0 _ T11.heap _
    rw [e11]
    exact ⟨rfl, N0, rfl⟩
theorem d2_39 : decode prog_33_method_14_code 39 = .ok (.iconst 0, 1) := by decide +kernel
def Q2_fffft (Z : State) (a1 : Addr) (w2 : Addr) (w4 : Addr) (w6 : Addr) (w8 : Addr) (w10 : Addr) (h0 : Heap) (n0 : Nat) (v : Option Value) (h : Heap) (L : List Loc) : Prop := v = some (.int (0 : Int32)) ∧ Fr n0 L ∧ h = h0
set_option maxRecDepth 65536 in
set_option maxHeartbeats 40000000 in
theorem rm2_fffft (l : Launch) (Z : State) (a0 : Array Value) (hw : ∀ d ∈ tables_1, d.before a0 Z = true) (ws : List Jvm.Cond) (a1 : Addr) (w2 : Addr) (w4 : Addr) (w6 : Addr) (w8 : Addr) (w10 : Addr) (h0 : Heap) (n0 : Nat) (Z0 : n0 ≤ h0.size) (S_MKDIR : Sta Z h0 "com/example/lessor/lessor/protocol/Operation" "MKDIR" "Lcom/example/lessor/lessor/protocol/Operation;" (.ref w2)) (S_CREATE : Sta Z h0 "com/example/lessor/lessor/protocol/Operation" "CREATE" "Lcom/example/lessor/lessor/protocol/Operation;" (.ref w4)) (S_UNLINK : Sta Z h0 "com/example/lessor/lessor/protocol/Operation" "UNLINK" "Lcom/example/lessor/lessor/protocol/Operation;" (.ref w6)) (S_RMDIR : Sta Z h0 "com/example/lessor/lessor/protocol/Operation" "RMDIR" "Lcom/example/lessor/lessor/protocol/Operation;" (.ref w8)) (S_RENAME : Sta Z h0 "com/example/lessor/lessor/protocol/Operation" "RENAME" "Lcom/example/lessor/lessor/protocol/Operation;" (.ref w10)) (ha4 : ¬ (a1 = w2)) (ha11 : ¬ (a1 = w4)) (ha18 : ¬ (a1 = w6)) (ha25 : ¬ (a1 = w8)) (ha32 : ¬ (a1 = w10)) :
    MetFree l (⟨"com/example/lessor/lessor/protocol/Operation", "isBatched", "()Z"⟩ : MethodName) (head1 (Jvm.Cond.code (⟨"com/example/lessor/lessor/protocol/Operation", "isBatched", "()Z"⟩ : MethodName) prog_33_method_14_code 1 (some .boolean) :: ws) ({ frames := 0, cells := 0, slots := 0, locals := 0 } : Room)) (fun a U => a = #[(.ref a1)] ∧ Z.Warmed39 U.vm ∧ U.heap = h0) (fun _ _ _ _ _ => True) (fun _ U o U' => ∃ v L, o = .returned v ∧ Q2_fffft Z a1 w2 w4 w6 w8 w10 h0 n0 v U'.heap L ∧ FrameEnd U o U' L ({ frames := 0, cells := 0, slots := 0, locals := 0 } : Room).cells ({ frames := 0, cells := 0, slots := 0, locals := 0 } : Room).slots) := by
  refine MetFree.of_bodySF (plainFor_of_name pn_2) hisR ?_
  intro p e s m args below meth c s₁ Bd hml0 hP hK
  obtain ⟨rfl, hZ, hh⟩ := hP
  have hx := Bd.exec
  have hby := Bd.bytes
  have hml : c.maxLocals = 1 := hml0
  have hown : s.vm.findClass "com/example/lessor/lessor/protocol/Operation" = some m.cls := findClass_of_methodNamed Bd.named
  have hnm := (name_of_methodNamed Bd.named Bd.method).1
  have X0 : Stand p l e ({ frames := 0, cells := 0, slots := 0, locals := 0 } : Room) s m #[(.ref a1)] below meth c s₁ [] 0 0 := Stand.of_body Bd
  have e0 : s₁.heap = h0 := by rw [← hh, Bd.state]; rfl
  have N0 := Fr.nil n0
  have pre0 : ∀ t, Steps p.tables e below (s₁.setTop (mkF m 0 #[.val (.ref a1)] [])) t → Steps p.tables e below (s₁.setTop (entryFrame m #[(.ref a1)] 1)) t := fun t k => castTop (ef_2 m a1) k
  -- 3. LAWS
  obtain ⟨T3, X3, e3, st3⟩ := getS2 X0 hx hZ hown (host := "") (Or.inl (hw _ (List.mem_of_getElem? (i := 13) rfl))) Via.refl e0 S_MKDIR (g := (mkF m 1 #[.val (.ref a1)] [(.ref a1)])) rfl (hb hby d2_1)
  obtain ⟨T5, X5, e5, st5⟩ := getS2 X3 hx hZ hown (host := "") (Or.inl (hw _ (List.mem_of_getElem? (i := 40) rfl))) Via.refl e3 S_CREATE (g := (mkF m 8 #[.val (.ref a1)] [(.ref a1)])) rfl (hb hby d2_8)
  obtain ⟨T7, X7, e7, st7⟩ := getS2 X5 hx hZ hown (host := "") (Or.inl (hw _ (List.mem_of_getElem? (i := 42) rfl))) Via.refl e5 S_UNLINK (g := (mkF m 15 #[.val (.ref a1)] [(.ref a1)])) rfl (hb hby d2_15)
  obtain ⟨T9, X9, e9, st9⟩ := getS2 X7 hx hZ hown (host := "") (Or.inl (hw _ (List.mem_of_getElem? (i := 44) rfl))) Via.refl e7 S_RMDIR (g := (mkF m 22 #[.val (.ref a1)] [(.ref a1)])) rfl (hb hby d2_22)
  obtain ⟨T11, X11, e11, st11⟩ := getS2 X9 hx hZ hown (host := "") (Or.inl (hw _ (List.mem_of_getElem? (i := 47) rfl))) Via.refl e9 S_RENAME (g := (mkF m 29 #[.val (.ref a1)] [(.ref a1)])) rfl (hb hby d2_29)
  obtain ⟨fs, hr, hrun, hended, hW, hsame⟩ := X11.leave (v := some (.int (0 : Int32))) (fun h => by rw [Bd.returns] at h; cases h)
  refine ⟨_, _, pre0 _ ?_, hrun, hended, _, _, rfl, ?_, ⟨_, rfl⟩, hW, hsame.mono (by decide) (by decide)⟩
  -- 4. STEPS
  · show Steps p.tables e below (s₁.setTop (mkF m 0 #[.val (.ref a1)] [])) _
    refine XS.aloadN X0.here hx rfl (hb hby d2_0) rfl rfl ?_
    show Steps p.tables e below (s₁.setTop (mkF m 1 #[.val (.ref a1)] [(.ref a1)])) _
    refine st3 _ ?_
    show Steps p.tables e below (T3.setTop (mkF m 4 #[.val (.ref a1)] [(.ref w2), (.ref a1)])) _
    refine Jvm.RoadKit.acmp (g := (mkF m 4 #[.val (.ref a1)] [(.ref w2), (.ref a1)])) X3 hx rfl rfl rfl (pc0 := 4) (pc' := 7) (same := false) rfl (hb hby d2_4) rfl (decide_eq_false fun q => ha4 (Value.ref.inj q)) (by decide) (by decide) ?_
    show Steps p.tables e below (T3.setTop (mkF m 7 #[.val (.ref a1)] [])) _
    refine XS.aloadN X3.here hx rfl (hb hby d2_7) rfl rfl ?_
    show Steps p.tables e below (T3.setTop (mkF m 8 #[.val (.ref a1)] [(.ref a1)])) _
    refine st5 _ ?_
    show Steps p.tables e below (T5.setTop (mkF m 11 #[.val (.ref a1)] [(.ref w4), (.ref a1)])) _
    refine Jvm.RoadKit.acmp (g := (mkF m 11 #[.val (.ref a1)] [(.ref w4), (.ref a1)])) X5 hx rfl rfl rfl (pc0 := 11) (pc' := 14) (same := false) rfl (hb hby d2_11) rfl (decide_eq_false fun q => ha11 (Value.ref.inj q)) (by decide) (by decide) ?_
    show Steps p.tables e below (T5.setTop (mkF m 14 #[.val (.ref a1)] [])) _
    refine XS.aloadN X5.here hx rfl (hb hby d2_14) rfl rfl ?_
    show Steps p.tables e below (T5.setTop (mkF m 15 #[.val (.ref a1)] [(.ref a1)])) _
    refine st7 _ ?_
    show Steps p.tables e below (T7.setTop (mkF m 18 #[.val (.ref a1)] [(.ref w6), (.ref a1)])) _
    refine Jvm.RoadKit.acmp (g := (mkF m 18 #[.val (.ref a1)] [(.ref w6), (.ref a1)])) X7 hx rfl rfl rfl (pc0 := 18) (pc' := 21) (same := false) rfl (hb hby d2_18) rfl (decide_eq_false fun q => ha18 (Value.ref.inj q)) (by decide) (by decide) ?_
    show Steps p.tables e below (T7.setTop (mkF m 21 #[.val (.ref a1)] [])) _
    refine XS.aloadN X7.here hx rfl (hb hby d2_21) rfl rfl ?_
    show Steps p.tables e below (T7.setTop (mkF m 22 #[.val (.ref a1)] [(.ref a1)])) _
    refine st9 _ ?_
    show Steps p.tables e below (T9.setTop (mkF m 25 #[.val (.ref a1)] [(.ref w8), (.ref a1)])) _
    refine Jvm.RoadKit.acmp (g := (mkF m 25 #[.val (.ref a1)] [(.ref w8), (.ref a1)])) X9 hx rfl rfl rfl (pc0 := 25) (pc' := 28) (same := false) rfl (hb hby d2_25) rfl (decide_eq_false fun q => ha25 (Value.ref.inj q)) (by decide) (by decide) ?_
    show Steps p.tables e below (T9.setTop (mkF m 28 #[.val (.ref a1)] [])) _
    refine XS.aloadN X9.here hx rfl (hb hby d2_28) rfl rfl ?_
    show Steps p.tables e below (T9.setTop (mkF m 29 #[.val (.ref a1)] [(.ref a1)])) _
    refine st11 _ ?_
    show Steps p.tables e below (T11.setTop (mkF m 32 #[.val (.ref a1)] [(.ref w10), (.ref a1)])) _
    refine Jvm.RoadKit.acmp (g := (mkF m 32 #[.val (.ref a1)] [(.ref w10), (.ref a1)])) X11 hx rfl rfl rfl (pc0 := 32) (pc' := 39) (same := false) rfl (hb hby d2_32) rfl (decide_eq_false fun q => ha32 (Value.ref.inj q)) (by decide) (by decide) ?_
    show Steps p.tables e below (T11.setTop (mkF m 39 #[.val (.ref a1)] [])) _
    refine XS.iconst X11.here hx rfl (hb hby d2_39) ?_
    show Steps p.tables e below (T11.setTop (mkF m 40 #[.val (.ref a1)] [(.int (0 : Int32))])) _
    exact retN X11 hx (t := .boolean) Bd.returns (by simp) (hb hby d2_40) hr
  · show Q2_fffft Z a1 w2 w4 w6 w8 w10 h0 n0 _ T11.heap _
    rw [e11]
    exact ⟨rfl, N0, rfl⟩
def P2 (Z : State) (h0 : Heap) (a1 : Addr) (r : Option Value) : Prop := (∃ (w2 : Addr), (Sta Z h0 "com/example/lessor/lessor/protocol/Operation" "MKDIR" "Lcom/example/lessor/lessor/protocol/Operation;" (.ref w2)) ∧ (a1 = w2) ∧ r = some (.int (1 : Int32))) ∨ (∃ (w2 : Addr), ∃ (w4 : Addr), (Sta Z h0 "com/example/lessor/lessor/protocol/Operation" "MKDIR" "Lcom/example/lessor/lessor/protocol/Operation;" (.ref w2)) ∧ (Sta Z h0 "com/example/lessor/lessor/protocol/Operation" "CREATE" "Lcom/example/lessor/lessor/protocol/Operation;" (.ref w4)) ∧ (¬ (a1 = w2)) ∧ (a1 = w4) ∧ r = some (.int (1 : Int32))) ∨ (∃ (w2 : Addr), ∃ (w4 : Addr), ∃ (w6 : Addr), (Sta Z h0 "com/example/lessor/lessor/protocol/Operation" "MKDIR" "Lcom/example/lessor/lessor/protocol/Operation;" (.ref w2)) ∧ (Sta Z h0 "com/example/lessor/lessor/protocol/Operation" "CREATE" "Lcom/example/lessor/lessor/protocol/Operation;" (.ref w4)) ∧ (Sta Z h0 "com/example/lessor/lessor/protocol/Operation" "UNLINK" "Lcom/example/lessor/lessor/protocol/Operation;" (.ref w6)) ∧ (¬ (a1 = w2)) ∧ (¬ (a1 = w4)) ∧ (a1 = w6) ∧ r = some (.int (1 : Int32))) ∨ (∃ (w2 : Addr), ∃ (w4 : Addr), ∃ (w6 : Addr), ∃ (w8 : Addr), (Sta Z h0 "com/example/lessor/lessor/protocol/Operation" "MKDIR" "Lcom/example/lessor/lessor/protocol/Operation;" (.ref w2)) ∧ (Sta Z h0 "com/example/lessor/lessor/protocol/Operation" "CREATE" "Lcom/example/lessor/lessor/protocol/Operation;" (.ref w4)) ∧ (Sta Z h0 "com/example/lessor/lessor/protocol/Operation" "UNLINK" "Lcom/example/lessor/lessor/protocol/Operation;" (.ref w6)) ∧ (Sta Z h0 "com/example/lessor/lessor/protocol/Operation" "RMDIR" "Lcom/example/lessor/lessor/protocol/Operation;" (.ref w8)) ∧ (¬ (a1 = w2)) ∧ (¬ (a1 = w4)) ∧ (¬ (a1 = w6)) ∧ (a1 = w8) ∧ r = some (.int (1 : Int32))) ∨ (∃ (w2 : Addr), ∃ (w4 : Addr), ∃ (w6 : Addr), ∃ (w8 : Addr), ∃ (w10 : Addr), (Sta Z h0 "com/example/lessor/lessor/protocol/Operation" "MKDIR" "Lcom/example/lessor/lessor/protocol/Operation;" (.ref w2)) ∧ (Sta Z h0 "com/example/lessor/lessor/protocol/Operation" "CREATE" "Lcom/example/lessor/lessor/protocol/Operation;" (.ref w4)) ∧ (Sta Z h0 "com/example/lessor/lessor/protocol/Operation" "UNLINK" "Lcom/example/lessor/lessor/protocol/Operation;" (.ref w6)) ∧ (Sta Z h0 "com/example/lessor/lessor/protocol/Operation" "RMDIR" "Lcom/example/lessor/lessor/protocol/Operation;" (.ref w8)) ∧ (Sta Z h0 "com/example/lessor/lessor/protocol/Operation" "RENAME" "Lcom/example/lessor/lessor/protocol/Operation;" (.ref w10)) ∧ (¬ (a1 = w2)) ∧ (¬ (a1 = w4)) ∧ (¬ (a1 = w6)) ∧ (¬ (a1 = w8)) ∧ (a1 = w10) ∧ r = some (.int (1 : Int32))) ∨ (∃ (w2 : Addr), ∃ (w4 : Addr), ∃ (w6 : Addr), ∃ (w8 : Addr), ∃ (w10 : Addr), (Sta Z h0 "com/example/lessor/lessor/protocol/Operation" "MKDIR" "Lcom/example/lessor/lessor/protocol/Operation;" (.ref w2)) ∧ (Sta Z h0 "com/example/lessor/lessor/protocol/Operation" "CREATE" "Lcom/example/lessor/lessor/protocol/Operation;" (.ref w4)) ∧ (Sta Z h0 "com/example/lessor/lessor/protocol/Operation" "UNLINK" "Lcom/example/lessor/lessor/protocol/Operation;" (.ref w6)) ∧ (Sta Z h0 "com/example/lessor/lessor/protocol/Operation" "RMDIR" "Lcom/example/lessor/lessor/protocol/Operation;" (.ref w8)) ∧ (Sta Z h0 "com/example/lessor/lessor/protocol/Operation" "RENAME" "Lcom/example/lessor/lessor/protocol/Operation;" (.ref w10)) ∧ (¬ (a1 = w2)) ∧ (¬ (a1 = w4)) ∧ (¬ (a1 = w6)) ∧ (¬ (a1 = w8)) ∧ (¬ (a1 = w10)) ∧ r = some (.int (0 : Int32)))
set_option maxRecDepth 65536 in
set_option maxHeartbeats 40000000 in
theorem own_2 (l : Launch) (Z : State) (a0 : Array Value) (hw : ∀ d ∈ tables_1, d.before a0 Z = true) (ws : List Jvm.Cond) (a1 : Addr) (r : Option Value) (h0 : Heap) (n0 : Nat) (Z0 : n0 ≤ h0.size) (hp : P2 Z h0 a1 r) :
    MetFree l (⟨"com/example/lessor/lessor/protocol/Operation", "isBatched", "()Z"⟩ : MethodName) (head1 (Jvm.Cond.code (⟨"com/example/lessor/lessor/protocol/Operation", "isBatched", "()Z"⟩ : MethodName) prog_33_method_14_code 1 (some .boolean) :: ws) ({ frames := 0, cells := 0, slots := 0, locals := 0 } : Room)) (fun a U => a = #[(.ref a1)] ∧ Z.Warmed39 U.vm ∧ U.heap = h0) (fun _ _ _ _ _ => True) (fun _ U o U' => ∃ v L, o = .returned v ∧ OwnQ r h0 n0 v U'.heap L ∧ FrameEnd U o U' L ({ frames := 0, cells := 0, slots := 0, locals := 0 } : Room).cells ({ frames := 0, cells := 0, slots := 0, locals := 0 } : Room).slots) := by
  rcases hp with ⟨w2, k0, k1, rfl⟩ | ⟨w2, w4, k0, k1, k2, k3, rfl⟩ | ⟨w2, w4, w6, k0, k1, k2, k3, k4, k5, rfl⟩ | ⟨w2, w4, w6, w8, k0, k1, k2, k3, k4, k5, k6, k7, rfl⟩ | ⟨w2, w4, w6, w8, w10, k0, k1, k2, k3, k4, k5, k6, k7, k8, k9, rfl⟩ | ⟨w2, w4, w6, w8, w10, k0, k1, k2, k3, k4, k5, k6, k7, k8, k9, rfl⟩
  · exact rm2_t l Z a0 hw ws a1 w2 h0 n0 Z0 k0 k1
  · exact rm2_ft l Z a0 hw ws a1 w2 w4 h0 n0 Z0 k0 k1 k2 k3
  · exact rm2_fft l Z a0 hw ws a1 w2 w4 w6 h0 n0 Z0 k0 k1 k2 k3 k4 k5
  · exact rm2_ffft l Z a0 hw ws a1 w2 w4 w6 w8 h0 n0 Z0 k0 k1 k2 k3 k4 k5 k6 k7
  · exact rm2_fffff l Z a0 hw ws a1 w2 w4 w6 w8 w10 h0 n0 Z0 k0 k1 k2 k3 k4 k5 k6 k7 k8 k9
  · exact rm2_fffft l Z a0 hw ws a1 w2 w4 w6 w8 w10 h0 n0 Z0 k0 k1 k2 k3 k4 k5 k6 k7 k8 k9
theorem d3_0 : decode prog_33_method_9_code 0 = .ok (.aload_n 0, 1) := by decide +kernel
theorem d3_1 : decode prog_33_method_9_code 1 = .ok (.getfield 76, 3) := by decide +kernel
theorem d3_4 : decode prog_33_method_9_code 4 = .ok (.ireturn, 1) := by decide +kernel
theorem pn_3 : plainName "com/example/lessor/lessor/protocol/Operation" = true := by first | (simp [plainName, overriddenIn]; done) | decide +kernel
theorem ef_3 (m : MethodId) (x0 : Addr) : entryFrame m #[(.ref x0)] 1 = mkF m 0 #[.val (.ref x0)] [] := by first | (simp [entryFrame, mkF, argsToLocals, Value.category]; done) | rfl
def Q3_o (Z : State) (a1 : Addr) (w2 : Int32) (h0 : Heap) (n0 : Nat) (v : Option Value) (h : Heap) (L : List Loc) : Prop := v = some (.int w2) ∧ Fr n0 L ∧ h = h0
set_option maxRecDepth 65536 in
set_option maxHeartbeats 40000000 in
theorem rm3_o (l : Launch) (Z : State) (a0 : Array Value) (hw : ∀ d ∈ tables_1, d.before a0 Z = true) (ws : List Jvm.Cond) (a1 : Addr) (w2 : Int32) (h0 : Heap) (n0 : Nat) (Z0 : n0 ≤ h0.size) (F_arity_a1 : Fld Z h0 a1 "com/example/lessor/lessor/protocol/Operation" "arity" "I" (.int w2)) :
    MetFree l (⟨"com/example/lessor/lessor/protocol/Operation", "arity", "()I"⟩ : MethodName) (head1 (Jvm.Cond.code (⟨"com/example/lessor/lessor/protocol/Operation", "arity", "()I"⟩ : MethodName) prog_33_method_9_code 1 (some .int) :: ws) ({ frames := 0, cells := 0, slots := 0, locals := 0 } : Room)) (fun a U => a = #[(.ref a1)] ∧ Z.Warmed39 U.vm ∧ U.heap = h0) (fun _ _ _ _ _ => True) (fun _ U o U' => ∃ v L, o = .returned v ∧ Q3_o Z a1 w2 h0 n0 v U'.heap L ∧ FrameEnd U o U' L ({ frames := 0, cells := 0, slots := 0, locals := 0 } : Room).cells ({ frames := 0, cells := 0, slots := 0, locals := 0 } : Room).slots) := by
  refine MetFree.of_bodySF (plainFor_of_name pn_3) hisR ?_
  intro p e s m args below meth c s₁ Bd hml0 hP hK
  obtain ⟨rfl, hZ, hh⟩ := hP
  have hx := Bd.exec
  have hby := Bd.bytes
  have hml : c.maxLocals = 1 := hml0
  have hown : s.vm.findClass "com/example/lessor/lessor/protocol/Operation" = some m.cls := findClass_of_methodNamed Bd.named
  have hnm := (name_of_methodNamed Bd.named Bd.method).1
  have X0 : Stand p l e ({ frames := 0, cells := 0, slots := 0, locals := 0 } : Room) s m #[(.ref a1)] below meth c s₁ [] 0 0 := Stand.of_body Bd
  have e0 : s₁.heap = h0 := by rw [← hh, Bd.state]; rfl
  have N0 := Fr.nil n0
  have pre0 : ∀ t, Steps p.tables e below (s₁.setTop (mkF m 0 #[.val (.ref a1)] [])) t → Steps p.tables e below (s₁.setTop (entryFrame m #[(.ref a1)] 1)) t := fun t k => castTop (ef_3 m a1) k
  -- 3. LAWS
  obtain ⟨T3, X3, e3, st3⟩ := getF X0 hx hZ hown (host := "") (Or.inl (hw _ (List.mem_of_getElem? (i := 19) rfl))) Via.refl e0 F_arity_a1 (g := (mkF m 1 #[.val (.ref a1)] [(.ref a1)])) rfl rfl (hb hby d3_1)
  obtain ⟨fs, hr, hrun, hended, hW, hsame⟩ := X3.leave (v := some (.int w2)) (fun h => by rw [Bd.returns] at h; cases h)
  refine ⟨_, _, pre0 _ ?_, hrun, hended, _, _, rfl, ?_, ⟨_, rfl⟩, hW, hsame.mono (by decide) (by decide)⟩
  -- 4. STEPS
  · show Steps p.tables e below (s₁.setTop (mkF m 0 #[.val (.ref a1)] [])) _
    refine XS.aloadN X0.here hx rfl (hb hby d3_0) rfl rfl ?_
    show Steps p.tables e below (s₁.setTop (mkF m 1 #[.val (.ref a1)] [(.ref a1)])) _
    refine st3 _ ?_
    show Steps p.tables e below (T3.setTop (mkF m 4 #[.val (.ref a1)] [(.int w2)])) _
    exact retI X3 hx Bd.returns (hb hby d3_4) hr      -- retI stands in the head ('lawwalk <made dir>' prints it)
  · show Q3_o Z a1 w2 h0 n0 _ T3.heap _
    rw [e3]
    exact ⟨rfl, N0, rfl⟩
def P3 (Z : State) (h0 : Heap) (a1 : Addr) (r : Option Value) : Prop := (∃ (w2 : Int32), (Fld Z h0 a1 "com/example/lessor/lessor/protocol/Operation" "arity" "I" (.int w2)) ∧ r = some (.int w2))
set_option maxRecDepth 65536 in
set_option maxHeartbeats 40000000 in
theorem own_3 (l : Launch) (Z : State) (a0 : Array Value) (hw : ∀ d ∈ tables_1, d.before a0 Z = true) (ws : List Jvm.Cond) (a1 : Addr) (r : Option Value) (h0 : Heap) (n0 : Nat) (Z0 : n0 ≤ h0.size) (hp : P3 Z h0 a1 r) :
    MetFree l (⟨"com/example/lessor/lessor/protocol/Operation", "arity", "()I"⟩ : MethodName) (head1 (Jvm.Cond.code (⟨"com/example/lessor/lessor/protocol/Operation", "arity", "()I"⟩ : MethodName) prog_33_method_9_code 1 (some .int) :: ws) ({ frames := 0, cells := 0, slots := 0, locals := 0 } : Room)) (fun a U => a = #[(.ref a1)] ∧ Z.Warmed39 U.vm ∧ U.heap = h0) (fun _ _ _ _ _ => True) (fun _ U o U' => ∃ v L, o = .returned v ∧ OwnQ r h0 n0 v U'.heap L ∧ FrameEnd U o U' L ({ frames := 0, cells := 0, slots := 0, locals := 0 } : Room).cells ({ frames := 0, cells := 0, slots := 0, locals := 0 } : Room).slots) := by
  obtain ⟨w2, k0, rfl⟩ := hp
  · exact rm3_o l Z a0 hw ws a1 w2 h0 n0 Z0 k0
theorem d4_0 : decode prog_33_method_18_code 0 = .ok (.aload_n 0, 1) := by decide +kernel
theorem d4_1 : decode prog_33_method_18_code 1 = .ok (.getfield 83, 3) := by decide +kernel
theorem d4_4 : decode prog_33_method_18_code 4 = .ok (.getstatic 109, 3) := by decide +kernel
theorem d4_7 : decode prog_33_method_18_code 7 = .ok (.if_acmp .ne 7, 3) := by decide +kernel
theorem d4_10 : decode prog_33_method_18_code 10 = .ok (.iconst 1, 1) := by decide +kernel
theorem d4_11 : decode prog_33_method_18_code 11 = .ok (.goto 4, 3) := by decide +kernel
theorem d4_15 : decode prog_33_method_18_code 15 = .ok (.ireturn, 1) := by decide +kernel
theorem pn_4 : plainName "com/example/lessor/lessor/protocol/Operation" = true := by first | (simp [plainName, overriddenIn]; done) | decide +kernel
theorem ef_4 (m : MethodId) (x0 : Addr) : entryFrame m #[(.ref x0)] 1 = mkF m 0 #[.val (.ref x0)] [] := by first | (simp [entryFrame, mkF, argsToLocals, Value.category]; done) | rfl
def Q4_f (Z : State) (a1 : Addr) (w2 : Addr) (w4 : Addr) (h0 : Heap) (n0 : Nat) (v : Option Value) (h : Heap) (L : List Loc) : Prop := v = some (.int (1 : Int32)) ∧ Fr n0 L ∧ h = h0
set_option maxRecDepth 65536 in
set_option maxHeartbeats 40000000 in
theorem rm4_f (l : Launch) (Z : State) (a0 : Array Value) (hw : ∀ d ∈ tables_1, d.before a0 Z = true) (ws : List Jvm.Cond) (a1 : Addr) (w2 : Addr) (w4 : Addr) (h0 : Heap) (n0 : Nat) (Z0 : n0 ≤ h0.size) (F_effect_a1 : Fld Z h0 a1 "com/example/lessor/lessor/protocol/Operation" "effect" "Lcom/example/lessor/lessor/protocol/Operation$Effect;" (.ref w2)) (S_CHANGES : Sta Z h0 "com/example/lessor/lessor/protocol/Operation$Effect" "CHANGES" "Lcom/example/lessor/lessor/protocol/Operation$Effect;" (.ref w4)) (ha7 : w2 = w4) :
    MetFree l (⟨"com/example/lessor/lessor/protocol/Operation", "changes", "()Z"⟩ : MethodName) (head1 (Jvm.Cond.code (⟨"com/example/lessor/lessor/protocol/Operation", "changes", "()Z"⟩ : MethodName) prog_33_method_18_code 1 (some .boolean) :: ws) ({ frames := 0, cells := 0, slots := 0, locals := 0 } : Room)) (fun a U => a = #[(.ref a1)] ∧ Z.Warmed39 U.vm ∧ U.heap = h0) (fun _ _ _ _ _ => True) (fun _ U o U' => ∃ v L, o = .returned v ∧ Q4_f Z a1 w2 w4 h0 n0 v U'.heap L ∧ FrameEnd U o U' L ({ frames := 0, cells := 0, slots := 0, locals := 0 } : Room).cells ({ frames := 0, cells := 0, slots := 0, locals := 0 } : Room).slots) := by
  refine MetFree.of_bodySF (plainFor_of_name pn_4) hisR ?_
  intro p e s m args below meth c s₁ Bd hml0 hP hK
  obtain ⟨rfl, hZ, hh⟩ := hP
  have hx := Bd.exec
  have hby := Bd.bytes
  have hml : c.maxLocals = 1 := hml0
  have hown : s.vm.findClass "com/example/lessor/lessor/protocol/Operation" = some m.cls := findClass_of_methodNamed Bd.named
  have hnm := (name_of_methodNamed Bd.named Bd.method).1
  have X0 : Stand p l e ({ frames := 0, cells := 0, slots := 0, locals := 0 } : Room) s m #[(.ref a1)] below meth c s₁ [] 0 0 := Stand.of_body Bd
  have e0 : s₁.heap = h0 := by rw [← hh, Bd.state]; rfl
  have N0 := Fr.nil n0
  have pre0 : ∀ t, Steps p.tables e below (s₁.setTop (mkF m 0 #[.val (.ref a1)] [])) t → Steps p.tables e below (s₁.setTop (entryFrame m #[(.ref a1)] 1)) t := fun t k => castTop (ef_4 m a1) k
  -- 3. LAWS
  obtain ⟨T3, X3, e3, st3⟩ := getF X0 hx hZ hown (host := "") (Or.inl (hw _ (List.mem_of_getElem? (i := 26) rfl))) Via.refl e0 F_effect_a1 (g := (mkF m 1 #[.val (.ref a1)] [(.ref a1)])) rfl rfl (hb hby d4_1)
  obtain ⟨T5, X5, e5, st5⟩ := getS2 X3 hx hZ hown (host := "") (Or.inl (hw _ (List.mem_of_getElem? (i := 30) rfl))) Via.refl e3 S_CHANGES (g := (mkF m 4 #[.val (.ref a1)] [(.ref w2)])) rfl (hb hby d4_4)
  obtain ⟨fs, hr, hrun, hended, hW, hsame⟩ := X5.leave (v := some (.int (1 : Int32))) (fun h => by rw [Bd.returns] at h; cases h)
  refine ⟨_, _, pre0 _ ?_, hrun, hended, _, _, rfl, ?_, ⟨_, rfl⟩, hW, hsame.mono (by decide) (by decide)⟩
  -- 4. STEPS
  · show Steps p.tables e below (s₁.setTop (mkF m 0 #[.val (.ref a1)] [])) _
    refine XS.aloadN X0.here hx rfl (hb hby d4_0) rfl rfl ?_
    show Steps p.tables e below (s₁.setTop (mkF m 1 #[.val (.ref a1)] [(.ref a1)])) _
    refine st3 _ ?_
    show Steps p.tables e below (T3.setTop (mkF m 4 #[.val (.ref a1)] [(.ref w2)])) _
    refine st5 _ ?_
    show Steps p.tables e below (T5.setTop (mkF m 7 #[.val (.ref a1)] [(.ref w4), (.ref w2)])) _
    refine Jvm.RoadKit.acmp (g := (mkF m 7 #[.val (.ref a1)] [(.ref w4), (.ref w2)])) X5 hx rfl rfl rfl (pc0 := 7) (pc' := 10) (same := true) rfl (hb hby d4_7) rfl (decide_eq_true (congrArg Value.ref ha7)) (by decide) (by decide) ?_
    show Steps p.tables e below (T5.setTop (mkF m 10 #[.val (.ref a1)] [])) _
    refine XS.iconst X5.here hx rfl (hb hby d4_10) ?_
    show Steps p.tables e below (T5.setTop (mkF m 11 #[.val (.ref a1)] [(.int (1 : Int32))])) _
    refine XS.goto X5.here hx rfl (pc0 := 11) (pc' := 15) rfl (hb hby d4_11) (by decide) (by decide) ?_
    show Steps p.tables e below (T5.setTop (mkF m 15 #[.val (.ref a1)] [(.int (1 : Int32))])) _
    exact retN X5 hx (t := .boolean) Bd.returns (by simp) (hb hby d4_15) hr
  · show Q4_f Z a1 w2 w4 h0 n0 _ T5.heap _
    rw [e5]
    exact ⟨rfl, N0, rfl⟩
theorem d4_14 : decode prog_33_method_18_code 14 = .ok (.iconst 0, 1) := by decide +kernel
def Q4_t (Z : State) (a1 : Addr) (w2 : Addr) (w4 : Addr) (h0 : Heap) (n0 : Nat) (v : Option Value) (h : Heap) (L : List Loc) : Prop := v = some (.int (0 : Int32)) ∧ Fr n0 L ∧ h = h0
set_option maxRecDepth 65536 in
set_option maxHeartbeats 40000000 in
theorem rm4_t (l : Launch) (Z : State) (a0 : Array Value) (hw : ∀ d ∈ tables_1, d.before a0 Z = true) (ws : List Jvm.Cond) (a1 : Addr) (w2 : Addr) (w4 : Addr) (h0 : Heap) (n0 : Nat) (Z0 : n0 ≤ h0.size) (F_effect_a1 : Fld Z h0 a1 "com/example/lessor/lessor/protocol/Operation" "effect" "Lcom/example/lessor/lessor/protocol/Operation$Effect;" (.ref w2)) (S_CHANGES : Sta Z h0 "com/example/lessor/lessor/protocol/Operation$Effect" "CHANGES" "Lcom/example/lessor/lessor/protocol/Operation$Effect;" (.ref w4)) (ha7 : ¬ (w2 = w4)) :
    MetFree l (⟨"com/example/lessor/lessor/protocol/Operation", "changes", "()Z"⟩ : MethodName) (head1 (Jvm.Cond.code (⟨"com/example/lessor/lessor/protocol/Operation", "changes", "()Z"⟩ : MethodName) prog_33_method_18_code 1 (some .boolean) :: ws) ({ frames := 0, cells := 0, slots := 0, locals := 0 } : Room)) (fun a U => a = #[(.ref a1)] ∧ Z.Warmed39 U.vm ∧ U.heap = h0) (fun _ _ _ _ _ => True) (fun _ U o U' => ∃ v L, o = .returned v ∧ Q4_t Z a1 w2 w4 h0 n0 v U'.heap L ∧ FrameEnd U o U' L ({ frames := 0, cells := 0, slots := 0, locals := 0 } : Room).cells ({ frames := 0, cells := 0, slots := 0, locals := 0 } : Room).slots) := by
  refine MetFree.of_bodySF (plainFor_of_name pn_4) hisR ?_
  intro p e s m args below meth c s₁ Bd hml0 hP hK
  obtain ⟨rfl, hZ, hh⟩ := hP
  have hx := Bd.exec
  have hby := Bd.bytes
  have hml : c.maxLocals = 1 := hml0
  have hown : s.vm.findClass "com/example/lessor/lessor/protocol/Operation" = some m.cls := findClass_of_methodNamed Bd.named
  have hnm := (name_of_methodNamed Bd.named Bd.method).1
  have X0 : Stand p l e ({ frames := 0, cells := 0, slots := 0, locals := 0 } : Room) s m #[(.ref a1)] below meth c s₁ [] 0 0 := Stand.of_body Bd
  have e0 : s₁.heap = h0 := by rw [← hh, Bd.state]; rfl
  have N0 := Fr.nil n0
  have pre0 : ∀ t, Steps p.tables e below (s₁.setTop (mkF m 0 #[.val (.ref a1)] [])) t → Steps p.tables e below (s₁.setTop (entryFrame m #[(.ref a1)] 1)) t := fun t k => castTop (ef_4 m a1) k
  -- 3. LAWS
  obtain ⟨T3, X3, e3, st3⟩ := getF X0 hx hZ hown (host := "") (Or.inl (hw _ (List.mem_of_getElem? (i := 26) rfl))) Via.refl e0 F_effect_a1 (g := (mkF m 1 #[.val (.ref a1)] [(.ref a1)])) rfl rfl (hb hby d4_1)
  obtain ⟨T5, X5, e5, st5⟩ := getS2 X3 hx hZ hown (host := "") (Or.inl (hw _ (List.mem_of_getElem? (i := 30) rfl))) Via.refl e3 S_CHANGES (g := (mkF m 4 #[.val (.ref a1)] [(.ref w2)])) rfl (hb hby d4_4)
  obtain ⟨fs, hr, hrun, hended, hW, hsame⟩ := X5.leave (v := some (.int (0 : Int32))) (fun h => by rw [Bd.returns] at h; cases h)
  refine ⟨_, _, pre0 _ ?_, hrun, hended, _, _, rfl, ?_, ⟨_, rfl⟩, hW, hsame.mono (by decide) (by decide)⟩
  -- 4. STEPS
  · show Steps p.tables e below (s₁.setTop (mkF m 0 #[.val (.ref a1)] [])) _
    refine XS.aloadN X0.here hx rfl (hb hby d4_0) rfl rfl ?_
    show Steps p.tables e below (s₁.setTop (mkF m 1 #[.val (.ref a1)] [(.ref a1)])) _
    refine st3 _ ?_
    show Steps p.tables e below (T3.setTop (mkF m 4 #[.val (.ref a1)] [(.ref w2)])) _
    refine st5 _ ?_
    show Steps p.tables e below (T5.setTop (mkF m 7 #[.val (.ref a1)] [(.ref w4), (.ref w2)])) _
    refine Jvm.RoadKit.acmp (g := (mkF m 7 #[.val (.ref a1)] [(.ref w4), (.ref w2)])) X5 hx rfl rfl rfl (pc0 := 7) (pc' := 14) (same := false) rfl (hb hby d4_7) rfl (decide_eq_false fun q => ha7 (Value.ref.inj q)) (by decide) (by decide) ?_
    show Steps p.tables e below (T5.setTop (mkF m 14 #[.val (.ref a1)] [])) _
    refine XS.iconst X5.here hx rfl (hb hby d4_14) ?_
    show Steps p.tables e below (T5.setTop (mkF m 15 #[.val (.ref a1)] [(.int (0 : Int32))])) _
    exact retN X5 hx (t := .boolean) Bd.returns (by simp) (hb hby d4_15) hr
  · show Q4_t Z a1 w2 w4 h0 n0 _ T5.heap _
    rw [e5]
    exact ⟨rfl, N0, rfl⟩
def P4 (Z : State) (h0 : Heap) (a1 : Addr) (r : Option Value) : Prop := (∃ (w2 : Addr), ∃ (w4 : Addr), (Fld Z h0 a1 "com/example/lessor/lessor/protocol/Operation" "effect" "Lcom/example/lessor/lessor/protocol/Operation$Effect;" (.ref w2)) ∧ (Sta Z h0 "com/example/lessor/lessor/protocol/Operation$Effect" "CHANGES" "Lcom/example/lessor/lessor/protocol/Operation$Effect;" (.ref w4)) ∧ (w2 = w4) ∧ r = some (.int (1 : Int32))) ∨ (∃ (w2 : Addr), ∃ (w4 : Addr), (Fld Z h0 a1 "com/example/lessor/lessor/protocol/Operation" "effect" "Lcom/example/lessor/lessor/protocol/Operation$Effect;" (.ref w2)) ∧ (Sta Z h0 "com/example/lessor/lessor/protocol/Operation$Effect" "CHANGES" "Lcom/example/lessor/lessor/protocol/Operation$Effect;" (.ref w4)) ∧ (¬ (w2 = w4)) ∧ r = some (.int (0 : Int32)))
set_option maxRecDepth 65536 in
set_option maxHeartbeats 40000000 in
theorem own_4 (l : Launch) (Z : State) (a0 : Array Value) (hw : ∀ d ∈ tables_1, d.before a0 Z = true) (ws : List Jvm.Cond) (a1 : Addr) (r : Option Value) (h0 : Heap) (n0 : Nat) (Z0 : n0 ≤ h0.size) (hp : P4 Z h0 a1 r) :
    MetFree l (⟨"com/example/lessor/lessor/protocol/Operation", "changes", "()Z"⟩ : MethodName) (head1 (Jvm.Cond.code (⟨"com/example/lessor/lessor/protocol/Operation", "changes", "()Z"⟩ : MethodName) prog_33_method_18_code 1 (some .boolean) :: ws) ({ frames := 0, cells := 0, slots := 0, locals := 0 } : Room)) (fun a U => a = #[(.ref a1)] ∧ Z.Warmed39 U.vm ∧ U.heap = h0) (fun _ _ _ _ _ => True) (fun _ U o U' => ∃ v L, o = .returned v ∧ OwnQ r h0 n0 v U'.heap L ∧ FrameEnd U o U' L ({ frames := 0, cells := 0, slots := 0, locals := 0 } : Room).cells ({ frames := 0, cells := 0, slots := 0, locals := 0 } : Room).slots) := by
  rcases hp with ⟨w2, w4, k0, k1, k2, rfl⟩ | ⟨w2, w4, k0, k1, k2, rfl⟩
  · exact rm4_f l Z a0 hw ws a1 w2 w4 h0 n0 Z0 k0 k1 k2
  · exact rm4_t l Z a0 hw ws a1 w2 w4 h0 n0 Z0 k0 k1 k2
theorem d5_0 : decode prog_33_method_10_code 0 = .ok (.aload_n 0, 1) := by decide +kernel
theorem d5_1 : decode prog_33_method_10_code 1 = .ok (.getfield 79, 3) := by decide +kernel
theorem d5_4 : decode prog_33_method_10_code 4 = .ok (.ireturn, 1) := by decide +kernel
theorem pn_5 : plainName "com/example/lessor/lessor/protocol/Operation" = true := by first | (simp [plainName, overriddenIn]; done) | decide +kernel
theorem ef_5 (m : MethodId) (x0 : Addr) : entryFrame m #[(.ref x0)] 1 = mkF m 0 #[.val (.ref x0)] [] := by first | (simp [entryFrame, mkF, argsToLocals, Value.category]; done) | rfl
def Q5_o (Z : State) (a1 : Addr) (w2 : Int32) (h0 : Heap) (n0 : Nat) (v : Option Value) (h : Heap) (L : List Loc) : Prop := v = some (.int w2) ∧ Fr n0 L ∧ h = h0
set_option maxRecDepth 65536 in
set_option maxHeartbeats 40000000 in
theorem rm5_o (l : Launch) (Z : State) (a0 : Array Value) (hw : ∀ d ∈ tables_1, d.before a0 Z = true) (ws : List Jvm.Cond) (a1 : Addr) (w2 : Int32) (h0 : Heap) (n0 : Nat) (Z0 : n0 ≤ h0.size) (F_variadic_a1 : Fld Z h0 a1 "com/example/lessor/lessor/protocol/Operation" "variadic" "Z" (.int w2)) (hnar : nar .boolean w2 = w2) :
    MetFree l (⟨"com/example/lessor/lessor/protocol/Operation", "isVariadic", "()Z"⟩ : MethodName) (head1 (Jvm.Cond.code (⟨"com/example/lessor/lessor/protocol/Operation", "isVariadic", "()Z"⟩ : MethodName) prog_33_method_10_code 1 (some .boolean) :: ws) ({ frames := 0, cells := 0, slots := 0, locals := 0 } : Room)) (fun a U => a = #[(.ref a1)] ∧ Z.Warmed39 U.vm ∧ U.heap = h0) (fun _ _ _ _ _ => True) (fun _ U o U' => ∃ v L, o = .returned v ∧ Q5_o Z a1 w2 h0 n0 v U'.heap L ∧ FrameEnd U o U' L ({ frames := 0, cells := 0, slots := 0, locals := 0 } : Room).cells ({ frames := 0, cells := 0, slots := 0, locals := 0 } : Room).slots) := by
  refine MetFree.of_bodySF (plainFor_of_name pn_5) hisR ?_
  intro p e s m args below meth c s₁ Bd hml0 hP hK
  obtain ⟨rfl, hZ, hh⟩ := hP
  have hx := Bd.exec
  have hby := Bd.bytes
  have hml : c.maxLocals = 1 := hml0
  have hown : s.vm.findClass "com/example/lessor/lessor/protocol/Operation" = some m.cls := findClass_of_methodNamed Bd.named
  have hnm := (name_of_methodNamed Bd.named Bd.method).1
  have X0 : Stand p l e ({ frames := 0, cells := 0, slots := 0, locals := 0 } : Room) s m #[(.ref a1)] below meth c s₁ [] 0 0 := Stand.of_body Bd
  have e0 : s₁.heap = h0 := by rw [← hh, Bd.state]; rfl
  have N0 := Fr.nil n0
  have pre0 : ∀ t, Steps p.tables e below (s₁.setTop (mkF m 0 #[.val (.ref a1)] [])) t → Steps p.tables e below (s₁.setTop (entryFrame m #[(.ref a1)] 1)) t := fun t k => castTop (ef_5 m a1) k
  -- 3. LAWS
  obtain ⟨T3, X3, e3, st3⟩ := getF X0 hx hZ hown (host := "") (Or.inl (hw _ (List.mem_of_getElem? (i := 36) rfl))) Via.refl e0 F_variadic_a1 (g := (mkF m 1 #[.val (.ref a1)] [(.ref a1)])) rfl rfl (hb hby d5_1)
  obtain ⟨fs, hr, hrun, hended, hW, hsame⟩ := X3.leave (v := some (.int w2)) (fun h => by rw [Bd.returns] at h; cases h)
  refine ⟨_, _, pre0 _ ?_, hrun, hended, _, _, rfl, ?_, ⟨_, rfl⟩, hW, hsame.mono (by decide) (by decide)⟩
  -- 4. STEPS
  · show Steps p.tables e below (s₁.setTop (mkF m 0 #[.val (.ref a1)] [])) _
    refine XS.aloadN X0.here hx rfl (hb hby d5_0) rfl rfl ?_
    show Steps p.tables e below (s₁.setTop (mkF m 1 #[.val (.ref a1)] [(.ref a1)])) _
    refine st3 _ ?_
    show Steps p.tables e below (T3.setTop (mkF m 4 #[.val (.ref a1)] [(.int w2)])) _
    exact retN X3 hx (t := .boolean) Bd.returns (by simp) (hb hby d5_4) (by rw [hnar]; exact hr)
  · show Q5_o Z a1 w2 h0 n0 _ T3.heap _
    rw [e3]
    exact ⟨rfl, N0, rfl⟩
def P5 (Z : State) (h0 : Heap) (a1 : Addr) (r : Option Value) : Prop := (∃ (w2 : Int32), (Fld Z h0 a1 "com/example/lessor/lessor/protocol/Operation" "variadic" "Z" (.int w2)) ∧ (nar .boolean w2 = w2) ∧ r = some (.int w2))
set_option maxRecDepth 65536 in
set_option maxHeartbeats 40000000 in
theorem own_5 (l : Launch) (Z : State) (a0 : Array Value) (hw : ∀ d ∈ tables_1, d.before a0 Z = true) (ws : List Jvm.Cond) (a1 : Addr) (r : Option Value) (h0 : Heap) (n0 : Nat) (Z0 : n0 ≤ h0.size) (hp : P5 Z h0 a1 r) :
    MetFree l (⟨"com/example/lessor/lessor/protocol/Operation", "isVariadic", "()Z"⟩ : MethodName) (head1 (Jvm.Cond.code (⟨"com/example/lessor/lessor/protocol/Operation", "isVariadic", "()Z"⟩ : MethodName) prog_33_method_10_code 1 (some .boolean) :: ws) ({ frames := 0, cells := 0, slots := 0, locals := 0 } : Room)) (fun a U => a = #[(.ref a1)] ∧ Z.Warmed39 U.vm ∧ U.heap = h0) (fun _ _ _ _ _ => True) (fun _ U o U' => ∃ v L, o = .returned v ∧ OwnQ r h0 n0 v U'.heap L ∧ FrameEnd U o U' L ({ frames := 0, cells := 0, slots := 0, locals := 0 } : Room).cells ({ frames := 0, cells := 0, slots := 0, locals := 0 } : Room).slots) := by
  obtain ⟨w2, k0, k1, rfl⟩ := hp
  · exact rm5_o l Z a0 hw ws a1 w2 h0 n0 Z0 k0 k1
theorem pn_0 : plainName "com/example/lessor/lessor/protocol/OperationIsBatchedPinLaw" = true := by first | (simp [plainName, overriddenIn]; done) | decide +kernel
theorem pd_0_0 : parseMethodDescriptor "(I)Lcom/example/lessor/lessor/protocol/Operation;" = some ⟨[.int], some (.object "com/example/lessor/lessor/protocol/Operation")⟩ := by decide +kernel
theorem pd_0_1 : parseMethodDescriptor "()Z" = some ⟨[], some .boolean⟩ := by decide +kernel
theorem pd_0_2 : parseMethodDescriptor "()I" = some ⟨[], some .int⟩ := by decide +kernel
theorem ef_0 (m : MethodId) (x0 : Int32) : entryFrame m #[(.int x0)] maxLocals = mkF m 0 #[.val (.int x0), .unset, .unset, .unset, .unset, .unset, .unset] [] := by first | (simp [entryFrame, mkF, argsToLocals, Value.category, maxLocals]; done) | rfl
def Q0_ttff (Z : State) (p1 : Int32) (h0 : Heap) (n0 : Nat) (v : Option Value) (h : Heap) (L : List Loc) : Prop := v = some (.int (1 : Int32)) ∧ Fr n0 L
set_option maxRecDepth 65536 in
set_option maxHeartbeats 40000000 in
theorem rm0_ttff (l : Launch) (Z : State) (a0 : Array Value) (hw : ∀ d ∈ tables_1, d.before a0 Z = true) (ws : List Jvm.Cond) (p1 : Int32) (r2 : Addr) (r3 : Int32) (r4 : Int32) (r5 : Int32) (h0 : Heap) (n0 : Nat) (Z0 : n0 ≤ h0.size) (hc20 : ¬ (((p1 &&& (2147483647 : Int32)) % (14 : Int32)) < (5 : Int32))) (hP2 : P1 Z h0 ((p1 &&& (2147483647 : Int32)) % (14 : Int32)) (some (.ref r2))) (E_r2 : Exa Z h0 r2 "com/example/lessor/lessor/protocol/Operation") (hP3 : P2 Z h0 r2 (some (.int r3))) (hP4 : P3 Z h0 r2 (some (.int r4))) (hP5 : P4 Z h0 r2 (some (.int r5))) (hx1 : r5 = (0 : Int32)) (hx2 : r3 = (0 : Int32)) (hx3 : r3 = (0 : Int32)) :
    MetFree l x (head1 (Jvm.Cond.code x code maxLocals ret :: ws) room_1) (fun a U => a = #[(.int p1)] ∧ Z.Warmed39 U.vm ∧ U.heap = h0) (fun _ _ _ _ _ => True) (fun _ U o U' => ∃ v L, o = .returned v ∧ Q0_ttff Z p1 h0 n0 v U'.heap L ∧ FrameEnd U o U' L room_1.cells room_1.slots) := by
  refine MetFree.of_bodySF (plainFor_of_name pn_0) hisR ?_
  intro p e s m args below meth c s₁ Bd hml0 hP hK
  obtain ⟨rfl, hZ, hh⟩ := hP
  have hx := Bd.exec
  have hby := Bd.bytes
  have hml : c.maxLocals = 7 := hml0
  have hown : s.vm.findClass "com/example/lessor/lessor/protocol/OperationIsBatchedPinLaw" = some m.cls := findClass_of_methodNamed Bd.named
  have hnm := (name_of_methodNamed Bd.named Bd.method).1
  have X0 : Stand p l e room_1 s m #[(.int p1)] below meth c s₁ [] 0 0 := Stand.of_body Bd
  have e0 : s₁.heap = h0 := by rw [← hh, Bd.state]; rfl
  have N0 := Fr.nil n0
  have pre0 : ∀ t, Steps p.tables e below (s₁.setTop (mkF m 0 #[.val (.int p1), .unset, .unset, .unset, .unset, .unset, .unset] [])) t → Steps p.tables e below (s₁.setTop (entryFrame m #[(.int p1)] maxLocals)) t := fun t k => castTop (ef_0 m p1) k
  -- 3. LAWS
  -- pc 9: com/example/lessor/lessor/protocol/OperationIsBatchedPinLaw.pick by its contract rm1
  obtain ⟨_, _, ⟨T2, L2, k2, n2⟩, -, X2, ⟨Lc2, hQ2, l2, y2, z2⟩, st2⟩ := Jvm.LawKit.callS X0 hx (y := (⟨"com/example/lessor/lessor/protocol/OperationIsBatchedPinLaw", "pick", "(I)Lcom/example/lessor/lessor/protocol/Operation;"⟩ : MethodName)) hown (mvT hZ (hw _ (List.mem_of_getElem? (i := 1) rfl))) (mvT hZ (hw _ (List.mem_of_getElem? (i := 2) rfl))) (mvT hZ (hw _ (List.mem_of_getElem? (i := 3) rfl))) (mvT hZ (hw _ (List.mem_of_getElem? (i := 4) rfl))) (by decide) (backOf (W := 0) (own_1 l Z a0 hw [] ((p1 &&& (2147483647 : Int32)) % (14 : Int32)) (some (.ref r2)) h0 n0 Z0 hP2) hZ (hw _ (List.mem_of_getElem? (i := 4) rfl)) (hw _ (List.mem_of_getElem? (i := 3) rfl)) (by decide) (by decide)) (g := (mkF m 9 #[.val (.int p1), .val (.int ((p1 &&& (2147483647 : Int32)) % (14 : Int32))), .unset, .unset, .unset, .unset, .unset] [(.int ((p1 &&& (2147483647 : Int32)) % (14 : Int32)))])) rfl (by rw [hml]; rfl) (argsL := [(.int ((p1 &&& (2147483647 : Int32)) % (14 : Int32)))]) (rest := []) (lenOf pd_0_0 rfl) rfl (by show 2 * 0 + _ ≤ _; exact Nat.le_of_eq rfl) (hb hby at_9) (fun _ _ => ⟨rfl, e0, (by decide : 0 + 0 ≤ _), (by decide : 0 + 0 ≤ _)⟩)
  dsimp only [Pt.U, Pt.locs, Pt.cells, Pt.slots] at X2 l2 y2 z2 st2 hQ2
  subst l2 y2 z2
  obtain ⟨rfl, N2q, e2⟩ := hQ2      -- what it returned, that it wrote nothing old, and the rest of your Q1
  have N2 := Fr.app N0 N2q
  -- pc 14: com/example/lessor/lessor/protocol/Operation.isBatched by the contract of the body that the receiver's class selects, rm2
  obtain ⟨cq3, kq3, q3a, q3b, q3c⟩ := isOf hZ e2 E_r2
  obtain ⟨_, _, ⟨T3, L3, k3, n3⟩, -, X3, ⟨Lc3, hQ3, l3, y3, z3⟩, st3⟩ := X2.virtualBack hx (y := (⟨"com/example/lessor/lessor/protocol/Operation", "isBatched", "()Z"⟩ : MethodName)) (z := (⟨"com/example/lessor/lessor/protocol/Operation", "isBatched", "()Z"⟩ : MethodName)) hown (mvT hZ (hw _ (List.mem_of_getElem? (i := 8) rfl))) (mvT hZ (hw _ (List.mem_of_getElem? (i := 9) rfl))) (notFace_of_selects (args := #[]) (mvT hZ (hw _ (List.mem_of_getElem? (i := 11) rfl)))) (mvT hZ (hw _ (List.mem_of_getElem? (i := 11) rfl))) (mvT hZ (hw _ (List.mem_of_getElem? (i := 10) rfl))) (by decide) (backOf (W := 0) (own_2 l Z a0 hw [] r2 (some (.int r3)) h0 n0 Z0 hP3) hZ (hw _ (List.mem_of_getElem? (i := 12) rfl)) (hw _ (List.mem_of_getElem? (i := 6) rfl)) (by decide) (by decide)) q3a q3c (g := (mkF m 14 #[.val (.int p1), .val (.int ((p1 &&& (2147483647 : Int32)) % (14 : Int32))), .val (.ref r2), .unset, .unset, .unset, .unset] [(.ref r2)])) rfl (by rw [hml]; rfl) (Steps.refl _) (argsL := []) (rest := []) (lenOf pd_0_1 rfl) rfl (by show 2 * 0 + _ ≤ _; exact Nat.le_of_eq rfl) (hb hby at_14) (fun _ _ => ⟨rfl, e2, (by decide : 0 + 0 ≤ _), (by decide : 0 + 0 ≤ _)⟩)
  dsimp only [Pt.U, Pt.locs, Pt.cells, Pt.slots] at X3 l3 y3 z3 st3 hQ3
  subst l3 y3 z3
  obtain ⟨rfl, N3q, e3⟩ := hQ3      -- what it returned, that it wrote nothing old, and the rest of your Q2
  have N3 := Fr.app N2 N3q
  -- pc 31: com/example/lessor/lessor/protocol/Operation.arity by the contract of the body that the receiver's class selects, rm3
  obtain ⟨cq4, kq4, q4a, q4b, q4c⟩ := isOf hZ e3 E_r2
  obtain ⟨_, _, ⟨T4, L4, k4, n4⟩, -, X4, ⟨Lc4, hQ4, l4, y4, z4⟩, st4⟩ := X3.virtualBack hx (y := (⟨"com/example/lessor/lessor/protocol/Operation", "arity", "()I"⟩ : MethodName)) (z := (⟨"com/example/lessor/lessor/protocol/Operation", "arity", "()I"⟩ : MethodName)) hown (mvT hZ (hw _ (List.mem_of_getElem? (i := 14) rfl))) (mvT hZ (hw _ (List.mem_of_getElem? (i := 15) rfl))) (notFace_of_selects (args := #[]) (mvT hZ (hw _ (List.mem_of_getElem? (i := 17) rfl)))) (mvT hZ (hw _ (List.mem_of_getElem? (i := 17) rfl))) (mvT hZ (hw _ (List.mem_of_getElem? (i := 16) rfl))) (by decide) (backOf (W := 0) (own_3 l Z a0 hw [] r2 (some (.int r4)) h0 n0 Z0 hP4) hZ (hw _ (List.mem_of_getElem? (i := 18) rfl)) (hw _ (List.mem_of_getElem? (i := 6) rfl)) (by decide) (by decide)) q4a q4c (g := (mkF m 31 #[.val (.int p1), .val (.int ((p1 &&& (2147483647 : Int32)) % (14 : Int32))), .val (.ref r2), .val (.int r3), .val (.int (0 : Int32)), .unset, .unset] [(.ref r2)])) rfl (by rw [hml]; rfl) (Steps.refl _) (argsL := []) (rest := []) (lenOf pd_0_2 rfl) rfl (by show 2 * 0 + _ ≤ _; exact Nat.le_of_eq rfl) (hb hby at_31) (fun _ _ => ⟨rfl, e3, (by decide : 0 + 0 ≤ _), (by decide : 0 + 0 ≤ _)⟩)
  dsimp only [Pt.U, Pt.locs, Pt.cells, Pt.slots] at X4 l4 y4 z4 st4 hQ4
  subst l4 y4 z4
  obtain ⟨rfl, N4q, e4⟩ := hQ4      -- what it returned, that it wrote nothing old, and the rest of your Q3
  have N4 := Fr.app N3 N4q
  -- pc 37: com/example/lessor/lessor/protocol/Operation.changes by the contract of the body that the receiver's class selects, rm4
  obtain ⟨cq5, kq5, q5a, q5b, q5c⟩ := isOf hZ e4 E_r2
  obtain ⟨_, _, ⟨T5, L5, k5, n5⟩, -, X5, ⟨Lc5, hQ5, l5, y5, z5⟩, st5⟩ := X4.virtualBack hx (y := (⟨"com/example/lessor/lessor/protocol/Operation", "changes", "()Z"⟩ : MethodName)) (z := (⟨"com/example/lessor/lessor/protocol/Operation", "changes", "()Z"⟩ : MethodName)) hown (mvT hZ (hw _ (List.mem_of_getElem? (i := 21) rfl))) (mvT hZ (hw _ (List.mem_of_getElem? (i := 22) rfl))) (notFace_of_selects (args := #[]) (mvT hZ (hw _ (List.mem_of_getElem? (i := 24) rfl)))) (mvT hZ (hw _ (List.mem_of_getElem? (i := 24) rfl))) (mvT hZ (hw _ (List.mem_of_getElem? (i := 23) rfl))) (by decide) (backOf (W := 0) (own_4 l Z a0 hw [] r2 (some (.int r5)) h0 n0 Z0 hP5) hZ (hw _ (List.mem_of_getElem? (i := 25) rfl)) (hw _ (List.mem_of_getElem? (i := 6) rfl)) (by decide) (by decide)) q5a q5c (g := (mkF m 37 #[.val (.int p1), .val (.int ((p1 &&& (2147483647 : Int32)) % (14 : Int32))), .val (.ref r2), .val (.int r3), .val (.int (0 : Int32)), .val (.int r4), .unset] [(.ref r2)])) rfl (by rw [hml]; rfl) (Steps.refl _) (argsL := []) (rest := []) (lenOf pd_0_1 rfl) rfl (by show 2 * 0 + _ ≤ _; exact Nat.le_of_eq rfl) (hb hby at_37) (fun _ _ => ⟨rfl, e4, (by decide : 0 + 0 ≤ _), (by decide : 0 + 0 ≤ _)⟩)
  dsimp only [Pt.U, Pt.locs, Pt.cells, Pt.slots] at X5 l5 y5 z5 st5 hQ5
  subst l5 y5 z5
  obtain ⟨rfl, N5q, e5⟩ := hQ5      -- what it returned, that it wrote nothing old, and the rest of your Q4
  have N5 := Fr.app N4 N5q
  obtain ⟨fs, hr, hrun, hended, hW, hsame⟩ := X5.leave (v := some (.int (1 : Int32))) (fun h => by rw [Bd.returns] at h; cases h)
  refine ⟨_, _, pre0 _ ?_, hrun, hended, _, _, rfl, ?_, ⟨_, rfl⟩, hW, hsame.mono (by decide) (by decide)⟩
  -- 4. STEPS
  · show Steps p.tables e below (s₁.setTop (mkF m 0 #[.val (.int p1), .unset, .unset, .unset, .unset, .unset, .unset] [])) _
    refine XS.iloadN X0.here hx rfl (hb hby at_0) rfl ?_
    show Steps p.tables e below (s₁.setTop (mkF m 1 #[.val (.int p1), .unset, .unset, .unset, .unset, .unset, .unset] [(.int p1)])) _
    refine X0.ldcInt hx hown (mvT hZ (hw _ (List.mem_of_getElem? (i := 0) rfl))) (g := (mkF m 1 #[.val (.int p1), .unset, .unset, .unset, .unset, .unset, .unset] [(.int p1)])) rfl (hb hby at_1) _ ?_
    show Steps p.tables e below (s₁.setTop (mkF m 3 #[.val (.int p1), .unset, .unset, .unset, .unset, .unset, .unset] [(.int (2147483647 : Int32)), (.int p1)])) _
    refine XS.iand X0.here hx rfl (hb hby at_3) rfl ?_
    show Steps p.tables e below (s₁.setTop (mkF m 4 #[.val (.int p1), .unset, .unset, .unset, .unset, .unset, .unset] [(.int (p1 &&& (2147483647 : Int32)))])) _
    refine XS.bipush X0.here hx rfl (hb hby at_4) ?_
    show Steps p.tables e below (s₁.setTop (mkF m 6 #[.val (.int p1), .unset, .unset, .unset, .unset, .unset, .unset] [(.int (14 : Int32)), (.int (p1 &&& (2147483647 : Int32)))])) _
    refine Jvm.RoadKit.iremM X0 hx rfl (hb hby at_6) rfl (by decide) ?_
    show Steps p.tables e below (s₁.setTop (mkF m 7 #[.val (.int p1), .unset, .unset, .unset, .unset, .unset, .unset] [(.int ((p1 &&& (2147483647 : Int32)) % (14 : Int32)))])) _
    refine XS.istoreN X0.here hx rfl (hb hby at_7) rfl (l' := #[.val (.int p1), .val (.int ((p1 &&& (2147483647 : Int32)) % (14 : Int32))), .unset, .unset, .unset, .unset, .unset]) rfl ?_
    show Steps p.tables e below (s₁.setTop (mkF m 8 #[.val (.int p1), .val (.int ((p1 &&& (2147483647 : Int32)) % (14 : Int32))), .unset, .unset, .unset, .unset, .unset] [])) _
    refine XS.iloadN X0.here hx rfl (hb hby at_8) rfl ?_
    show Steps p.tables e below (s₁.setTop (mkF m 9 #[.val (.int p1), .val (.int ((p1 &&& (2147483647 : Int32)) % (14 : Int32))), .unset, .unset, .unset, .unset, .unset] [(.int ((p1 &&& (2147483647 : Int32)) % (14 : Int32)))])) _
    refine st2 _ ?_
    show Steps p.tables e below (T2.setTop (mkF m 12 #[.val (.int p1), .val (.int ((p1 &&& (2147483647 : Int32)) % (14 : Int32))), .unset, .unset, .unset, .unset, .unset] [(.ref r2)])) _
    refine XS.astoreN X2.here hx rfl (hb hby at_12) rfl rfl (l' := #[.val (.int p1), .val (.int ((p1 &&& (2147483647 : Int32)) % (14 : Int32))), .val (.ref r2), .unset, .unset, .unset, .unset]) rfl ?_
    show Steps p.tables e below (T2.setTop (mkF m 13 #[.val (.int p1), .val (.int ((p1 &&& (2147483647 : Int32)) % (14 : Int32))), .val (.ref r2), .unset, .unset, .unset, .unset] [])) _
    refine XS.aloadN X2.here hx rfl (hb hby at_13) rfl rfl ?_
    show Steps p.tables e below (T2.setTop (mkF m 14 #[.val (.int p1), .val (.int ((p1 &&& (2147483647 : Int32)) % (14 : Int32))), .val (.ref r2), .unset, .unset, .unset, .unset] [(.ref r2)])) _
    refine st3.trans ?_
    show Steps p.tables e below (T3.setTop (mkF m 17 #[.val (.int p1), .val (.int ((p1 &&& (2147483647 : Int32)) % (14 : Int32))), .val (.ref r2), .unset, .unset, .unset, .unset] [(.int r3)])) _
    refine XS.istoreN X3.here hx rfl (hb hby at_17) rfl (l' := #[.val (.int p1), .val (.int ((p1 &&& (2147483647 : Int32)) % (14 : Int32))), .val (.ref r2), .val (.int r3), .unset, .unset, .unset]) rfl ?_
    show Steps p.tables e below (T3.setTop (mkF m 18 #[.val (.int p1), .val (.int ((p1 &&& (2147483647 : Int32)) % (14 : Int32))), .val (.ref r2), .val (.int r3), .unset, .unset, .unset] [])) _
    refine XS.iloadN X3.here hx rfl (hb hby at_18) rfl ?_
    show Steps p.tables e below (T3.setTop (mkF m 19 #[.val (.int p1), .val (.int ((p1 &&& (2147483647 : Int32)) % (14 : Int32))), .val (.ref r2), .val (.int r3), .unset, .unset, .unset] [(.int ((p1 &&& (2147483647 : Int32)) % (14 : Int32)))])) _
    refine XS.iconst X3.here hx rfl (hb hby at_19) ?_
    show Steps p.tables e below (T3.setTop (mkF m 20 #[.val (.int p1), .val (.int ((p1 &&& (2147483647 : Int32)) % (14 : Int32))), .val (.ref r2), .val (.int r3), .unset, .unset, .unset] [(.int (5 : Int32)), (.int ((p1 &&& (2147483647 : Int32)) % (14 : Int32)))])) _
    refine XS.icmpYes X3.here hx rfl (pc0 := 20) (pc' := 27) rfl (hb hby at_20) rfl (flt hc20).2.1 (by decide) (by decide) ?_
    show Steps p.tables e below (T3.setTop (mkF m 27 #[.val (.int p1), .val (.int ((p1 &&& (2147483647 : Int32)) % (14 : Int32))), .val (.ref r2), .val (.int r3), .unset, .unset, .unset] [])) _
    refine XS.iconst X3.here hx rfl (hb hby at_27) ?_
    show Steps p.tables e below (T3.setTop (mkF m 28 #[.val (.int p1), .val (.int ((p1 &&& (2147483647 : Int32)) % (14 : Int32))), .val (.ref r2), .val (.int r3), .unset, .unset, .unset] [(.int (0 : Int32))])) _
    refine XS.istore X3.here hx rfl (hb hby at_28) rfl (l' := #[.val (.int p1), .val (.int ((p1 &&& (2147483647 : Int32)) % (14 : Int32))), .val (.ref r2), .val (.int r3), .val (.int (0 : Int32)), .unset, .unset]) rfl ?_
    show Steps p.tables e below (T3.setTop (mkF m 30 #[.val (.int p1), .val (.int ((p1 &&& (2147483647 : Int32)) % (14 : Int32))), .val (.ref r2), .val (.int r3), .val (.int (0 : Int32)), .unset, .unset] [])) _
    refine XS.aloadN X3.here hx rfl (hb hby at_30) rfl rfl ?_
    show Steps p.tables e below (T3.setTop (mkF m 31 #[.val (.int p1), .val (.int ((p1 &&& (2147483647 : Int32)) % (14 : Int32))), .val (.ref r2), .val (.int r3), .val (.int (0 : Int32)), .unset, .unset] [(.ref r2)])) _
    refine st4.trans ?_
    show Steps p.tables e below (T4.setTop (mkF m 34 #[.val (.int p1), .val (.int ((p1 &&& (2147483647 : Int32)) % (14 : Int32))), .val (.ref r2), .val (.int r3), .val (.int (0 : Int32)), .unset, .unset] [(.int r4)])) _
    refine XS.istore X4.here hx rfl (hb hby at_34) rfl (l' := #[.val (.int p1), .val (.int ((p1 &&& (2147483647 : Int32)) % (14 : Int32))), .val (.ref r2), .val (.int r3), .val (.int (0 : Int32)), .val (.int r4), .unset]) rfl ?_
    show Steps p.tables e below (T4.setTop (mkF m 36 #[.val (.int p1), .val (.int ((p1 &&& (2147483647 : Int32)) % (14 : Int32))), .val (.ref r2), .val (.int r3), .val (.int (0 : Int32)), .val (.int r4), .unset] [])) _
    refine XS.aloadN X4.here hx rfl (hb hby at_36) rfl rfl ?_
    show Steps p.tables e below (T4.setTop (mkF m 37 #[.val (.int p1), .val (.int ((p1 &&& (2147483647 : Int32)) % (14 : Int32))), .val (.ref r2), .val (.int r3), .val (.int (0 : Int32)), .val (.int r4), .unset] [(.ref r2)])) _
    refine st5.trans ?_
    show Steps p.tables e below (T5.setTop (mkF m 40 #[.val (.int p1), .val (.int ((p1 &&& (2147483647 : Int32)) % (14 : Int32))), .val (.ref r2), .val (.int r3), .val (.int (0 : Int32)), .val (.int r4), .unset] [(.int r5)])) _
    refine XS.ifYes X5.here hx rfl (pc0 := 40) (pc' := 66) rfl (hb hby at_40) rfl ((if0 _ _).trans (teq hx1).1) (by decide) (by decide) ?_
    show Steps p.tables e below (T5.setTop (mkF m 66 #[.val (.int p1), .val (.int ((p1 &&& (2147483647 : Int32)) % (14 : Int32))), .val (.ref r2), .val (.int r3), .val (.int (0 : Int32)), .val (.int r4), .unset] [])) _
    refine XS.iconst X5.here hx rfl (hb hby at_66) ?_
    show Steps p.tables e below (T5.setTop (mkF m 67 #[.val (.int p1), .val (.int ((p1 &&& (2147483647 : Int32)) % (14 : Int32))), .val (.ref r2), .val (.int r3), .val (.int (0 : Int32)), .val (.int r4), .unset] [(.int (0 : Int32))])) _
    refine XS.istore X5.here hx rfl (hb hby at_67) rfl (l' := #[.val (.int p1), .val (.int ((p1 &&& (2147483647 : Int32)) % (14 : Int32))), .val (.ref r2), .val (.int r3), .val (.int (0 : Int32)), .val (.int r4), .val (.int (0 : Int32))]) rfl ?_
    show Steps p.tables e below (T5.setTop (mkF m 69 #[.val (.int p1), .val (.int ((p1 &&& (2147483647 : Int32)) % (14 : Int32))), .val (.ref r2), .val (.int r3), .val (.int (0 : Int32)), .val (.int r4), .val (.int (0 : Int32))] [])) _
    refine XS.iloadN X5.here hx rfl (hb hby at_69) rfl ?_
    show Steps p.tables e below (T5.setTop (mkF m 70 #[.val (.int p1), .val (.int ((p1 &&& (2147483647 : Int32)) % (14 : Int32))), .val (.ref r2), .val (.int r3), .val (.int (0 : Int32)), .val (.int r4), .val (.int (0 : Int32))] [(.int r3)])) _
    refine XS.iload X5.here hx rfl (hb hby at_70) rfl ?_
    show Steps p.tables e below (T5.setTop (mkF m 72 #[.val (.int p1), .val (.int ((p1 &&& (2147483647 : Int32)) % (14 : Int32))), .val (.ref r2), .val (.int r3), .val (.int (0 : Int32)), .val (.int r4), .val (.int (0 : Int32))] [(.int (0 : Int32)), (.int r3)])) _
    refine XS.icmpNo X5.here hx rfl (hb hby at_72) rfl (teq hx2).2 ?_
    show Steps p.tables e below (T5.setTop (mkF m 75 #[.val (.int p1), .val (.int ((p1 &&& (2147483647 : Int32)) % (14 : Int32))), .val (.ref r2), .val (.int r3), .val (.int (0 : Int32)), .val (.int r4), .val (.int (0 : Int32))] [])) _
    refine XS.iloadN X5.here hx rfl (hb hby at_75) rfl ?_
    show Steps p.tables e below (T5.setTop (mkF m 76 #[.val (.int p1), .val (.int ((p1 &&& (2147483647 : Int32)) % (14 : Int32))), .val (.ref r2), .val (.int r3), .val (.int (0 : Int32)), .val (.int r4), .val (.int (0 : Int32))] [(.int r3)])) _
    refine XS.iload X5.here hx rfl (hb hby at_76) rfl ?_
    show Steps p.tables e below (T5.setTop (mkF m 78 #[.val (.int p1), .val (.int ((p1 &&& (2147483647 : Int32)) % (14 : Int32))), .val (.ref r2), .val (.int r3), .val (.int (0 : Int32)), .val (.int r4), .val (.int (0 : Int32))] [(.int (0 : Int32)), (.int r3)])) _
    refine XS.icmpNo X5.here hx rfl (hb hby at_78) rfl (teq hx3).2 ?_
    show Steps p.tables e below (T5.setTop (mkF m 81 #[.val (.int p1), .val (.int ((p1 &&& (2147483647 : Int32)) % (14 : Int32))), .val (.ref r2), .val (.int r3), .val (.int (0 : Int32)), .val (.int r4), .val (.int (0 : Int32))] [])) _
    refine XS.iconst X5.here hx rfl (hb hby at_81) ?_
    show Steps p.tables e below (T5.setTop (mkF m 82 #[.val (.int p1), .val (.int ((p1 &&& (2147483647 : Int32)) % (14 : Int32))), .val (.ref r2), .val (.int r3), .val (.int (0 : Int32)), .val (.int r4), .val (.int (0 : Int32))] [(.int (1 : Int32))])) _
    refine XS.goto X5.here hx rfl (pc0 := 82) (pc' := 86) rfl (hb hby at_82) (by decide) (by decide) ?_
    show Steps p.tables e below (T5.setTop (mkF m 86 #[.val (.int p1), .val (.int ((p1 &&& (2147483647 : Int32)) % (14 : Int32))), .val (.ref r2), .val (.int r3), .val (.int (0 : Int32)), .val (.int r4), .val (.int (0 : Int32))] [(.int (1 : Int32))])) _
    exact retN X5 hx (t := .boolean) Bd.returns (by simp) (hb hby at_86) hr
  · show Q0_ttff Z p1 h0 n0 _ T5.heap _
    exact ⟨rfl, N5⟩
def Q0_tftff (Z : State) (p1 : Int32) (h0 : Heap) (n0 : Nat) (v : Option Value) (h : Heap) (L : List Loc) : Prop := v = some (.int (1 : Int32)) ∧ Fr n0 L
set_option maxRecDepth 65536 in
set_option maxHeartbeats 40000000 in
theorem rm0_tftff (l : Launch) (Z : State) (a0 : Array Value) (hw : ∀ d ∈ tables_1, d.before a0 Z = true) (ws : List Jvm.Cond) (p1 : Int32) (r2 : Addr) (r3 : Int32) (r4 : Int32) (r5 : Int32) (r6 : Int32) (h0 : Heap) (n0 : Nat) (Z0 : n0 ≤ h0.size) (hc20 : ¬ (((p1 &&& (2147483647 : Int32)) % (14 : Int32)) < (5 : Int32))) (hP2 : P1 Z h0 ((p1 &&& (2147483647 : Int32)) % (14 : Int32)) (some (.ref r2))) (E_r2 : Exa Z h0 r2 "com/example/lessor/lessor/protocol/Operation") (hP3 : P2 Z h0 r2 (some (.int r3))) (hP4 : P3 Z h0 r2 (some (.int r4))) (hP5 : P4 Z h0 r2 (some (.int r5))) (hP6 : P5 Z h0 r2 (some (.int r6))) (hx1 : ¬ (r5 = (0 : Int32))) (hx2 : ¬ (r6 = (0 : Int32))) (hx3 : r3 = (0 : Int32)) (hx4 : r3 = (0 : Int32)) :
    MetFree l x (head1 (Jvm.Cond.code x code maxLocals ret :: ws) room_1) (fun a U => a = #[(.int p1)] ∧ Z.Warmed39 U.vm ∧ U.heap = h0) (fun _ _ _ _ _ => True) (fun _ U o U' => ∃ v L, o = .returned v ∧ Q0_tftff Z p1 h0 n0 v U'.heap L ∧ FrameEnd U o U' L room_1.cells room_1.slots) := by
  refine MetFree.of_bodySF (plainFor_of_name pn_0) hisR ?_
  intro p e s m args below meth c s₁ Bd hml0 hP hK
  obtain ⟨rfl, hZ, hh⟩ := hP
  have hx := Bd.exec
  have hby := Bd.bytes
  have hml : c.maxLocals = 7 := hml0
  have hown : s.vm.findClass "com/example/lessor/lessor/protocol/OperationIsBatchedPinLaw" = some m.cls := findClass_of_methodNamed Bd.named
  have hnm := (name_of_methodNamed Bd.named Bd.method).1
  have X0 : Stand p l e room_1 s m #[(.int p1)] below meth c s₁ [] 0 0 := Stand.of_body Bd
  have e0 : s₁.heap = h0 := by rw [← hh, Bd.state]; rfl
  have N0 := Fr.nil n0
  have pre0 : ∀ t, Steps p.tables e below (s₁.setTop (mkF m 0 #[.val (.int p1), .unset, .unset, .unset, .unset, .unset, .unset] [])) t → Steps p.tables e below (s₁.setTop (entryFrame m #[(.int p1)] maxLocals)) t := fun t k => castTop (ef_0 m p1) k
  -- 3. LAWS
  -- pc 9: com/example/lessor/lessor/protocol/OperationIsBatchedPinLaw.pick by its contract rm1
  obtain ⟨_, _, ⟨T2, L2, k2, n2⟩, -, X2, ⟨Lc2, hQ2, l2, y2, z2⟩, st2⟩ := Jvm.LawKit.callS X0 hx (y := (⟨"com/example/lessor/lessor/protocol/OperationIsBatchedPinLaw", "pick", "(I)Lcom/example/lessor/lessor/protocol/Operation;"⟩ : MethodName)) hown (mvT hZ (hw _ (List.mem_of_getElem? (i := 1) rfl))) (mvT hZ (hw _ (List.mem_of_getElem? (i := 2) rfl))) (mvT hZ (hw _ (List.mem_of_getElem? (i := 3) rfl))) (mvT hZ (hw _ (List.mem_of_getElem? (i := 4) rfl))) (by decide) (backOf (W := 0) (own_1 l Z a0 hw [] ((p1 &&& (2147483647 : Int32)) % (14 : Int32)) (some (.ref r2)) h0 n0 Z0 hP2) hZ (hw _ (List.mem_of_getElem? (i := 4) rfl)) (hw _ (List.mem_of_getElem? (i := 3) rfl)) (by decide) (by decide)) (g := (mkF m 9 #[.val (.int p1), .val (.int ((p1 &&& (2147483647 : Int32)) % (14 : Int32))), .unset, .unset, .unset, .unset, .unset] [(.int ((p1 &&& (2147483647 : Int32)) % (14 : Int32)))])) rfl (by rw [hml]; rfl) (argsL := [(.int ((p1 &&& (2147483647 : Int32)) % (14 : Int32)))]) (rest := []) (lenOf pd_0_0 rfl) rfl (by show 2 * 0 + _ ≤ _; exact Nat.le_of_eq rfl) (hb hby at_9) (fun _ _ => ⟨rfl, e0, (by decide : 0 + 0 ≤ _), (by decide : 0 + 0 ≤ _)⟩)
  dsimp only [Pt.U, Pt.locs, Pt.cells, Pt.slots] at X2 l2 y2 z2 st2 hQ2
  subst l2 y2 z2
  obtain ⟨rfl, N2q, e2⟩ := hQ2      -- what it returned, that it wrote nothing old, and the rest of your Q1
  have N2 := Fr.app N0 N2q
  -- pc 14: com/example/lessor/lessor/protocol/Operation.isBatched by the contract of the body that the receiver's class selects, rm2
  obtain ⟨cq3, kq3, q3a, q3b, q3c⟩ := isOf hZ e2 E_r2
  obtain ⟨_, _, ⟨T3, L3, k3, n3⟩, -, X3, ⟨Lc3, hQ3, l3, y3, z3⟩, st3⟩ := X2.virtualBack hx (y := (⟨"com/example/lessor/lessor/protocol/Operation", "isBatched", "()Z"⟩ : MethodName)) (z := (⟨"com/example/lessor/lessor/protocol/Operation", "isBatched", "()Z"⟩ : MethodName)) hown (mvT hZ (hw _ (List.mem_of_getElem? (i := 8) rfl))) (mvT hZ (hw _ (List.mem_of_getElem? (i := 9) rfl))) (notFace_of_selects (args := #[]) (mvT hZ (hw _ (List.mem_of_getElem? (i := 11) rfl)))) (mvT hZ (hw _ (List.mem_of_getElem? (i := 11) rfl))) (mvT hZ (hw _ (List.mem_of_getElem? (i := 10) rfl))) (by decide) (backOf (W := 0) (own_2 l Z a0 hw [] r2 (some (.int r3)) h0 n0 Z0 hP3) hZ (hw _ (List.mem_of_getElem? (i := 12) rfl)) (hw _ (List.mem_of_getElem? (i := 6) rfl)) (by decide) (by decide)) q3a q3c (g := (mkF m 14 #[.val (.int p1), .val (.int ((p1 &&& (2147483647 : Int32)) % (14 : Int32))), .val (.ref r2), .unset, .unset, .unset, .unset] [(.ref r2)])) rfl (by rw [hml]; rfl) (Steps.refl _) (argsL := []) (rest := []) (lenOf pd_0_1 rfl) rfl (by show 2 * 0 + _ ≤ _; exact Nat.le_of_eq rfl) (hb hby at_14) (fun _ _ => ⟨rfl, e2, (by decide : 0 + 0 ≤ _), (by decide : 0 + 0 ≤ _)⟩)
  dsimp only [Pt.U, Pt.locs, Pt.cells, Pt.slots] at X3 l3 y3 z3 st3 hQ3
  subst l3 y3 z3
  obtain ⟨rfl, N3q, e3⟩ := hQ3      -- what it returned, that it wrote nothing old, and the rest of your Q2
  have N3 := Fr.app N2 N3q
  -- pc 31: com/example/lessor/lessor/protocol/Operation.arity by the contract of the body that the receiver's class selects, rm3
  obtain ⟨cq4, kq4, q4a, q4b, q4c⟩ := isOf hZ e3 E_r2
  obtain ⟨_, _, ⟨T4, L4, k4, n4⟩, -, X4, ⟨Lc4, hQ4, l4, y4, z4⟩, st4⟩ := X3.virtualBack hx (y := (⟨"com/example/lessor/lessor/protocol/Operation", "arity", "()I"⟩ : MethodName)) (z := (⟨"com/example/lessor/lessor/protocol/Operation", "arity", "()I"⟩ : MethodName)) hown (mvT hZ (hw _ (List.mem_of_getElem? (i := 14) rfl))) (mvT hZ (hw _ (List.mem_of_getElem? (i := 15) rfl))) (notFace_of_selects (args := #[]) (mvT hZ (hw _ (List.mem_of_getElem? (i := 17) rfl)))) (mvT hZ (hw _ (List.mem_of_getElem? (i := 17) rfl))) (mvT hZ (hw _ (List.mem_of_getElem? (i := 16) rfl))) (by decide) (backOf (W := 0) (own_3 l Z a0 hw [] r2 (some (.int r4)) h0 n0 Z0 hP4) hZ (hw _ (List.mem_of_getElem? (i := 18) rfl)) (hw _ (List.mem_of_getElem? (i := 6) rfl)) (by decide) (by decide)) q4a q4c (g := (mkF m 31 #[.val (.int p1), .val (.int ((p1 &&& (2147483647 : Int32)) % (14 : Int32))), .val (.ref r2), .val (.int r3), .val (.int (0 : Int32)), .unset, .unset] [(.ref r2)])) rfl (by rw [hml]; rfl) (Steps.refl _) (argsL := []) (rest := []) (lenOf pd_0_2 rfl) rfl (by show 2 * 0 + _ ≤ _; exact Nat.le_of_eq rfl) (hb hby at_31) (fun _ _ => ⟨rfl, e3, (by decide : 0 + 0 ≤ _), (by decide : 0 + 0 ≤ _)⟩)
  dsimp only [Pt.U, Pt.locs, Pt.cells, Pt.slots] at X4 l4 y4 z4 st4 hQ4
  subst l4 y4 z4
  obtain ⟨rfl, N4q, e4⟩ := hQ4      -- what it returned, that it wrote nothing old, and the rest of your Q3
  have N4 := Fr.app N3 N4q
  -- pc 37: com/example/lessor/lessor/protocol/Operation.changes by the contract of the body that the receiver's class selects, rm4
  obtain ⟨cq5, kq5, q5a, q5b, q5c⟩ := isOf hZ e4 E_r2
  obtain ⟨_, _, ⟨T5, L5, k5, n5⟩, -, X5, ⟨Lc5, hQ5, l5, y5, z5⟩, st5⟩ := X4.virtualBack hx (y := (⟨"com/example/lessor/lessor/protocol/Operation", "changes", "()Z"⟩ : MethodName)) (z := (⟨"com/example/lessor/lessor/protocol/Operation", "changes", "()Z"⟩ : MethodName)) hown (mvT hZ (hw _ (List.mem_of_getElem? (i := 21) rfl))) (mvT hZ (hw _ (List.mem_of_getElem? (i := 22) rfl))) (notFace_of_selects (args := #[]) (mvT hZ (hw _ (List.mem_of_getElem? (i := 24) rfl)))) (mvT hZ (hw _ (List.mem_of_getElem? (i := 24) rfl))) (mvT hZ (hw _ (List.mem_of_getElem? (i := 23) rfl))) (by decide) (backOf (W := 0) (own_4 l Z a0 hw [] r2 (some (.int r5)) h0 n0 Z0 hP5) hZ (hw _ (List.mem_of_getElem? (i := 25) rfl)) (hw _ (List.mem_of_getElem? (i := 6) rfl)) (by decide) (by decide)) q5a q5c (g := (mkF m 37 #[.val (.int p1), .val (.int ((p1 &&& (2147483647 : Int32)) % (14 : Int32))), .val (.ref r2), .val (.int r3), .val (.int (0 : Int32)), .val (.int r4), .unset] [(.ref r2)])) rfl (by rw [hml]; rfl) (Steps.refl _) (argsL := []) (rest := []) (lenOf pd_0_1 rfl) rfl (by show 2 * 0 + _ ≤ _; exact Nat.le_of_eq rfl) (hb hby at_37) (fun _ _ => ⟨rfl, e4, (by decide : 0 + 0 ≤ _), (by decide : 0 + 0 ≤ _)⟩)
  dsimp only [Pt.U, Pt.locs, Pt.cells, Pt.slots] at X5 l5 y5 z5 st5 hQ5
  subst l5 y5 z5
  obtain ⟨rfl, N5q, e5⟩ := hQ5      -- what it returned, that it wrote nothing old, and the rest of your Q4
  have N5 := Fr.app N4 N5q
  -- pc 44: com/example/lessor/lessor/protocol/Operation.isVariadic by the contract of the body that the receiver's class selects, rm5
  obtain ⟨cq6, kq6, q6a, q6b, q6c⟩ := isOf hZ e5 E_r2
  obtain ⟨_, _, ⟨T6, L6, k6, n6⟩, -, X6, ⟨Lc6, hQ6, l6, y6, z6⟩, st6⟩ := X5.virtualBack hx (y := (⟨"com/example/lessor/lessor/protocol/Operation", "isVariadic", "()Z"⟩ : MethodName)) (z := (⟨"com/example/lessor/lessor/protocol/Operation", "isVariadic", "()Z"⟩ : MethodName)) hown (mvT hZ (hw _ (List.mem_of_getElem? (i := 31) rfl))) (mvT hZ (hw _ (List.mem_of_getElem? (i := 32) rfl))) (notFace_of_selects (args := #[]) (mvT hZ (hw _ (List.mem_of_getElem? (i := 34) rfl)))) (mvT hZ (hw _ (List.mem_of_getElem? (i := 34) rfl))) (mvT hZ (hw _ (List.mem_of_getElem? (i := 33) rfl))) (by decide) (backOf (W := 0) (own_5 l Z a0 hw [] r2 (some (.int r6)) h0 n0 Z0 hP6) hZ (hw _ (List.mem_of_getElem? (i := 35) rfl)) (hw _ (List.mem_of_getElem? (i := 6) rfl)) (by decide) (by decide)) q6a q6c (g := (mkF m 44 #[.val (.int p1), .val (.int ((p1 &&& (2147483647 : Int32)) % (14 : Int32))), .val (.ref r2), .val (.int r3), .val (.int (0 : Int32)), .val (.int r4), .unset] [(.ref r2)])) rfl (by rw [hml]; rfl) (Steps.refl _) (argsL := []) (rest := []) (lenOf pd_0_1 rfl) rfl (by show 2 * 0 + _ ≤ _; exact Nat.le_of_eq rfl) (hb hby at_44) (fun _ _ => ⟨rfl, e5, (by decide : 0 + 0 ≤ _), (by decide : 0 + 0 ≤ _)⟩)
  dsimp only [Pt.U, Pt.locs, Pt.cells, Pt.slots] at X6 l6 y6 z6 st6 hQ6
  subst l6 y6 z6
  obtain ⟨rfl, N6q, e6⟩ := hQ6      -- what it returned, that it wrote nothing old, and the rest of your Q5
  have N6 := Fr.app N5 N6q
  obtain ⟨fs, hr, hrun, hended, hW, hsame⟩ := X6.leave (v := some (.int (1 : Int32))) (fun h => by rw [Bd.returns] at h; cases h)
  refine ⟨_, _, pre0 _ ?_, hrun, hended, _, _, rfl, ?_, ⟨_, rfl⟩, hW, hsame.mono (by decide) (by decide)⟩
  -- 4. STEPS
  · show Steps p.tables e below (s₁.setTop (mkF m 0 #[.val (.int p1), .unset, .unset, .unset, .unset, .unset, .unset] [])) _
    refine XS.iloadN X0.here hx rfl (hb hby at_0) rfl ?_
    show Steps p.tables e below (s₁.setTop (mkF m 1 #[.val (.int p1), .unset, .unset, .unset, .unset, .unset, .unset] [(.int p1)])) _
    refine X0.ldcInt hx hown (mvT hZ (hw _ (List.mem_of_getElem? (i := 0) rfl))) (g := (mkF m 1 #[.val (.int p1), .unset, .unset, .unset, .unset, .unset, .unset] [(.int p1)])) rfl (hb hby at_1) _ ?_
    show Steps p.tables e below (s₁.setTop (mkF m 3 #[.val (.int p1), .unset, .unset, .unset, .unset, .unset, .unset] [(.int (2147483647 : Int32)), (.int p1)])) _
    refine XS.iand X0.here hx rfl (hb hby at_3) rfl ?_
    show Steps p.tables e below (s₁.setTop (mkF m 4 #[.val (.int p1), .unset, .unset, .unset, .unset, .unset, .unset] [(.int (p1 &&& (2147483647 : Int32)))])) _
    refine XS.bipush X0.here hx rfl (hb hby at_4) ?_
    show Steps p.tables e below (s₁.setTop (mkF m 6 #[.val (.int p1), .unset, .unset, .unset, .unset, .unset, .unset] [(.int (14 : Int32)), (.int (p1 &&& (2147483647 : Int32)))])) _
    refine Jvm.RoadKit.iremM X0 hx rfl (hb hby at_6) rfl (by decide) ?_
    show Steps p.tables e below (s₁.setTop (mkF m 7 #[.val (.int p1), .unset, .unset, .unset, .unset, .unset, .unset] [(.int ((p1 &&& (2147483647 : Int32)) % (14 : Int32)))])) _
    refine XS.istoreN X0.here hx rfl (hb hby at_7) rfl (l' := #[.val (.int p1), .val (.int ((p1 &&& (2147483647 : Int32)) % (14 : Int32))), .unset, .unset, .unset, .unset, .unset]) rfl ?_
    show Steps p.tables e below (s₁.setTop (mkF m 8 #[.val (.int p1), .val (.int ((p1 &&& (2147483647 : Int32)) % (14 : Int32))), .unset, .unset, .unset, .unset, .unset] [])) _
    refine XS.iloadN X0.here hx rfl (hb hby at_8) rfl ?_
    show Steps p.tables e below (s₁.setTop (mkF m 9 #[.val (.int p1), .val (.int ((p1 &&& (2147483647 : Int32)) % (14 : Int32))), .unset, .unset, .unset, .unset, .unset] [(.int ((p1 &&& (2147483647 : Int32)) % (14 : Int32)))])) _
    refine st2 _ ?_
    show Steps p.tables e below (T2.setTop (mkF m 12 #[.val (.int p1), .val (.int ((p1 &&& (2147483647 : Int32)) % (14 : Int32))), .unset, .unset, .unset, .unset, .unset] [(.ref r2)])) _
    refine XS.astoreN X2.here hx rfl (hb hby at_12) rfl rfl (l' := #[.val (.int p1), .val (.int ((p1 &&& (2147483647 : Int32)) % (14 : Int32))), .val (.ref r2), .unset, .unset, .unset, .unset]) rfl ?_
    show Steps p.tables e below (T2.setTop (mkF m 13 #[.val (.int p1), .val (.int ((p1 &&& (2147483647 : Int32)) % (14 : Int32))), .val (.ref r2), .unset, .unset, .unset, .unset] [])) _
    refine XS.aloadN X2.here hx rfl (hb hby at_13) rfl rfl ?_
    show Steps p.tables e below (T2.setTop (mkF m 14 #[.val (.int p1), .val (.int ((p1 &&& (2147483647 : Int32)) % (14 : Int32))), .val (.ref r2), .unset, .unset, .unset, .unset] [(.ref r2)])) _
    refine st3.trans ?_
    show Steps p.tables e below (T3.setTop (mkF m 17 #[.val (.int p1), .val (.int ((p1 &&& (2147483647 : Int32)) % (14 : Int32))), .val (.ref r2), .unset, .unset, .unset, .unset] [(.int r3)])) _
    refine XS.istoreN X3.here hx rfl (hb hby at_17) rfl (l' := #[.val (.int p1), .val (.int ((p1 &&& (2147483647 : Int32)) % (14 : Int32))), .val (.ref r2), .val (.int r3), .unset, .unset, .unset]) rfl ?_
    show Steps p.tables e below (T3.setTop (mkF m 18 #[.val (.int p1), .val (.int ((p1 &&& (2147483647 : Int32)) % (14 : Int32))), .val (.ref r2), .val (.int r3), .unset, .unset, .unset] [])) _
    refine XS.iloadN X3.here hx rfl (hb hby at_18) rfl ?_
    show Steps p.tables e below (T3.setTop (mkF m 19 #[.val (.int p1), .val (.int ((p1 &&& (2147483647 : Int32)) % (14 : Int32))), .val (.ref r2), .val (.int r3), .unset, .unset, .unset] [(.int ((p1 &&& (2147483647 : Int32)) % (14 : Int32)))])) _
    refine XS.iconst X3.here hx rfl (hb hby at_19) ?_
    show Steps p.tables e below (T3.setTop (mkF m 20 #[.val (.int p1), .val (.int ((p1 &&& (2147483647 : Int32)) % (14 : Int32))), .val (.ref r2), .val (.int r3), .unset, .unset, .unset] [(.int (5 : Int32)), (.int ((p1 &&& (2147483647 : Int32)) % (14 : Int32)))])) _
    refine XS.icmpYes X3.here hx rfl (pc0 := 20) (pc' := 27) rfl (hb hby at_20) rfl (flt hc20).2.1 (by decide) (by decide) ?_
    show Steps p.tables e below (T3.setTop (mkF m 27 #[.val (.int p1), .val (.int ((p1 &&& (2147483647 : Int32)) % (14 : Int32))), .val (.ref r2), .val (.int r3), .unset, .unset, .unset] [])) _
    refine XS.iconst X3.here hx rfl (hb hby at_27) ?_
    show Steps p.tables e below (T3.setTop (mkF m 28 #[.val (.int p1), .val (.int ((p1 &&& (2147483647 : Int32)) % (14 : Int32))), .val (.ref r2), .val (.int r3), .unset, .unset, .unset] [(.int (0 : Int32))])) _
    refine XS.istore X3.here hx rfl (hb hby at_28) rfl (l' := #[.val (.int p1), .val (.int ((p1 &&& (2147483647 : Int32)) % (14 : Int32))), .val (.ref r2), .val (.int r3), .val (.int (0 : Int32)), .unset, .unset]) rfl ?_
    show Steps p.tables e below (T3.setTop (mkF m 30 #[.val (.int p1), .val (.int ((p1 &&& (2147483647 : Int32)) % (14 : Int32))), .val (.ref r2), .val (.int r3), .val (.int (0 : Int32)), .unset, .unset] [])) _
    refine XS.aloadN X3.here hx rfl (hb hby at_30) rfl rfl ?_
    show Steps p.tables e below (T3.setTop (mkF m 31 #[.val (.int p1), .val (.int ((p1 &&& (2147483647 : Int32)) % (14 : Int32))), .val (.ref r2), .val (.int r3), .val (.int (0 : Int32)), .unset, .unset] [(.ref r2)])) _
    refine st4.trans ?_
    show Steps p.tables e below (T4.setTop (mkF m 34 #[.val (.int p1), .val (.int ((p1 &&& (2147483647 : Int32)) % (14 : Int32))), .val (.ref r2), .val (.int r3), .val (.int (0 : Int32)), .unset, .unset] [(.int r4)])) _
    refine XS.istore X4.here hx rfl (hb hby at_34) rfl (l' := #[.val (.int p1), .val (.int ((p1 &&& (2147483647 : Int32)) % (14 : Int32))), .val (.ref r2), .val (.int r3), .val (.int (0 : Int32)), .val (.int r4), .unset]) rfl ?_
    show Steps p.tables e below (T4.setTop (mkF m 36 #[.val (.int p1), .val (.int ((p1 &&& (2147483647 : Int32)) % (14 : Int32))), .val (.ref r2), .val (.int r3), .val (.int (0 : Int32)), .val (.int r4), .unset] [])) _
    refine XS.aloadN X4.here hx rfl (hb hby at_36) rfl rfl ?_
    show Steps p.tables e below (T4.setTop (mkF m 37 #[.val (.int p1), .val (.int ((p1 &&& (2147483647 : Int32)) % (14 : Int32))), .val (.ref r2), .val (.int r3), .val (.int (0 : Int32)), .val (.int r4), .unset] [(.ref r2)])) _
    refine st5.trans ?_
    show Steps p.tables e below (T5.setTop (mkF m 40 #[.val (.int p1), .val (.int ((p1 &&& (2147483647 : Int32)) % (14 : Int32))), .val (.ref r2), .val (.int r3), .val (.int (0 : Int32)), .val (.int r4), .unset] [(.int r5)])) _
    refine XS.ifNo X5.here hx rfl (hb hby at_40) rfl ((if0 _ _).trans (feq hx1).1) ?_
    show Steps p.tables e below (T5.setTop (mkF m 43 #[.val (.int p1), .val (.int ((p1 &&& (2147483647 : Int32)) % (14 : Int32))), .val (.ref r2), .val (.int r3), .val (.int (0 : Int32)), .val (.int r4), .unset] [])) _
    refine XS.aloadN X5.here hx rfl (hb hby at_43) rfl rfl ?_
    show Steps p.tables e below (T5.setTop (mkF m 44 #[.val (.int p1), .val (.int ((p1 &&& (2147483647 : Int32)) % (14 : Int32))), .val (.ref r2), .val (.int r3), .val (.int (0 : Int32)), .val (.int r4), .unset] [(.ref r2)])) _
    refine st6.trans ?_
    show Steps p.tables e below (T6.setTop (mkF m 47 #[.val (.int p1), .val (.int ((p1 &&& (2147483647 : Int32)) % (14 : Int32))), .val (.ref r2), .val (.int r3), .val (.int (0 : Int32)), .val (.int r4), .unset] [(.int r6)])) _
    refine XS.ifYes X6.here hx rfl (pc0 := 47) (pc' := 66) rfl (hb hby at_47) rfl ((if0 _ _).trans (feq hx2).2) (by decide) (by decide) ?_
    show Steps p.tables e below (T6.setTop (mkF m 66 #[.val (.int p1), .val (.int ((p1 &&& (2147483647 : Int32)) % (14 : Int32))), .val (.ref r2), .val (.int r3), .val (.int (0 : Int32)), .val (.int r4), .unset] [])) _
    refine XS.iconst X6.here hx rfl (hb hby at_66) ?_
    show Steps p.tables e below (T6.setTop (mkF m 67 #[.val (.int p1), .val (.int ((p1 &&& (2147483647 : Int32)) % (14 : Int32))), .val (.ref r2), .val (.int r3), .val (.int (0 : Int32)), .val (.int r4), .unset] [(.int (0 : Int32))])) _
    refine XS.istore X6.here hx rfl (hb hby at_67) rfl (l' := #[.val (.int p1), .val (.int ((p1 &&& (2147483647 : Int32)) % (14 : Int32))), .val (.ref r2), .val (.int r3), .val (.int (0 : Int32)), .val (.int r4), .val (.int (0 : Int32))]) rfl ?_
    show Steps p.tables e below (T6.setTop (mkF m 69 #[.val (.int p1), .val (.int ((p1 &&& (2147483647 : Int32)) % (14 : Int32))), .val (.ref r2), .val (.int r3), .val (.int (0 : Int32)), .val (.int r4), .val (.int (0 : Int32))] [])) _
    refine XS.iloadN X6.here hx rfl (hb hby at_69) rfl ?_
    show Steps p.tables e below (T6.setTop (mkF m 70 #[.val (.int p1), .val (.int ((p1 &&& (2147483647 : Int32)) % (14 : Int32))), .val (.ref r2), .val (.int r3), .val (.int (0 : Int32)), .val (.int r4), .val (.int (0 : Int32))] [(.int r3)])) _
    refine XS.iload X6.here hx rfl (hb hby at_70) rfl ?_
    show Steps p.tables e below (T6.setTop (mkF m 72 #[.val (.int p1), .val (.int ((p1 &&& (2147483647 : Int32)) % (14 : Int32))), .val (.ref r2), .val (.int r3), .val (.int (0 : Int32)), .val (.int r4), .val (.int (0 : Int32))] [(.int (0 : Int32)), (.int r3)])) _
    refine XS.icmpNo X6.here hx rfl (hb hby at_72) rfl (teq hx3).2 ?_
    show Steps p.tables e below (T6.setTop (mkF m 75 #[.val (.int p1), .val (.int ((p1 &&& (2147483647 : Int32)) % (14 : Int32))), .val (.ref r2), .val (.int r3), .val (.int (0 : Int32)), .val (.int r4), .val (.int (0 : Int32))] [])) _
    refine XS.iloadN X6.here hx rfl (hb hby at_75) rfl ?_
    show Steps p.tables e below (T6.setTop (mkF m 76 #[.val (.int p1), .val (.int ((p1 &&& (2147483647 : Int32)) % (14 : Int32))), .val (.ref r2), .val (.int r3), .val (.int (0 : Int32)), .val (.int r4), .val (.int (0 : Int32))] [(.int r3)])) _
    refine XS.iload X6.here hx rfl (hb hby at_76) rfl ?_
    show Steps p.tables e below (T6.setTop (mkF m 78 #[.val (.int p1), .val (.int ((p1 &&& (2147483647 : Int32)) % (14 : Int32))), .val (.ref r2), .val (.int r3), .val (.int (0 : Int32)), .val (.int r4), .val (.int (0 : Int32))] [(.int (0 : Int32)), (.int r3)])) _
    refine XS.icmpNo X6.here hx rfl (hb hby at_78) rfl (teq hx4).2 ?_
    show Steps p.tables e below (T6.setTop (mkF m 81 #[.val (.int p1), .val (.int ((p1 &&& (2147483647 : Int32)) % (14 : Int32))), .val (.ref r2), .val (.int r3), .val (.int (0 : Int32)), .val (.int r4), .val (.int (0 : Int32))] [])) _
    refine XS.iconst X6.here hx rfl (hb hby at_81) ?_
    show Steps p.tables e below (T6.setTop (mkF m 82 #[.val (.int p1), .val (.int ((p1 &&& (2147483647 : Int32)) % (14 : Int32))), .val (.ref r2), .val (.int r3), .val (.int (0 : Int32)), .val (.int r4), .val (.int (0 : Int32))] [(.int (1 : Int32))])) _
    refine XS.goto X6.here hx rfl (pc0 := 82) (pc' := 86) rfl (hb hby at_82) (by decide) (by decide) ?_
    show Steps p.tables e below (T6.setTop (mkF m 86 #[.val (.int p1), .val (.int ((p1 &&& (2147483647 : Int32)) % (14 : Int32))), .val (.ref r2), .val (.int r3), .val (.int (0 : Int32)), .val (.int r4), .val (.int (0 : Int32))] [(.int (1 : Int32))])) _
    exact retN X6 hx (t := .boolean) Bd.returns (by simp) (hb hby at_86) hr
  · show Q0_tftff Z p1 h0 n0 _ T6.heap _
    exact ⟨rfl, N6⟩
def Q0_tfftff (Z : State) (p1 : Int32) (h0 : Heap) (n0 : Nat) (v : Option Value) (h : Heap) (L : List Loc) : Prop := v = some (.int (1 : Int32)) ∧ Fr n0 L
set_option maxRecDepth 65536 in
set_option maxHeartbeats 40000000 in
theorem rm0_tfftff (l : Launch) (Z : State) (a0 : Array Value) (hw : ∀ d ∈ tables_1, d.before a0 Z = true) (ws : List Jvm.Cond) (p1 : Int32) (r2 : Addr) (r3 : Int32) (r4 : Int32) (r5 : Int32) (r6 : Int32) (h0 : Heap) (n0 : Nat) (Z0 : n0 ≤ h0.size) (hc20 : ¬ (((p1 &&& (2147483647 : Int32)) % (14 : Int32)) < (5 : Int32))) (hP2 : P1 Z h0 ((p1 &&& (2147483647 : Int32)) % (14 : Int32)) (some (.ref r2))) (E_r2 : Exa Z h0 r2 "com/example/lessor/lessor/protocol/Operation") (hP3 : P2 Z h0 r2 (some (.int r3))) (hP4 : P3 Z h0 r2 (some (.int r4))) (hP5 : P4 Z h0 r2 (some (.int r5))) (hP6 : P5 Z h0 r2 (some (.int r6))) (hx1 : ¬ (r5 = (0 : Int32))) (hx2 : r6 = (0 : Int32)) (hx3 : r4 < (1 : Int32)) (hx4 : r3 = (0 : Int32)) (hx5 : r3 = (0 : Int32)) :
    MetFree l x (head1 (Jvm.Cond.code x code maxLocals ret :: ws) room_1) (fun a U => a = #[(.int p1)] ∧ Z.Warmed39 U.vm ∧ U.heap = h0) (fun _ _ _ _ _ => True) (fun _ U o U' => ∃ v L, o = .returned v ∧ Q0_tfftff Z p1 h0 n0 v U'.heap L ∧ FrameEnd U o U' L room_1.cells room_1.slots) := by
  refine MetFree.of_bodySF (plainFor_of_name pn_0) hisR ?_
  intro p e s m args below meth c s₁ Bd hml0 hP hK
  obtain ⟨rfl, hZ, hh⟩ := hP
  have hx := Bd.exec
  have hby := Bd.bytes
  have hml : c.maxLocals = 7 := hml0
  have hown : s.vm.findClass "com/example/lessor/lessor/protocol/OperationIsBatchedPinLaw" = some m.cls := findClass_of_methodNamed Bd.named
  have hnm := (name_of_methodNamed Bd.named Bd.method).1
  have X0 : Stand p l e room_1 s m #[(.int p1)] below meth c s₁ [] 0 0 := Stand.of_body Bd
  have e0 : s₁.heap = h0 := by rw [← hh, Bd.state]; rfl
  have N0 := Fr.nil n0
  have pre0 : ∀ t, Steps p.tables e below (s₁.setTop (mkF m 0 #[.val (.int p1), .unset, .unset, .unset, .unset, .unset, .unset] [])) t → Steps p.tables e below (s₁.setTop (entryFrame m #[(.int p1)] maxLocals)) t := fun t k => castTop (ef_0 m p1) k
  -- 3. LAWS
  -- pc 9: com/example/lessor/lessor/protocol/OperationIsBatchedPinLaw.pick by its contract rm1
  obtain ⟨_, _, ⟨T2, L2, k2, n2⟩, -, X2, ⟨Lc2, hQ2, l2, y2, z2⟩, st2⟩ := Jvm.LawKit.callS X0 hx (y := (⟨"com/example/lessor/lessor/protocol/OperationIsBatchedPinLaw", "pick", "(I)Lcom/example/lessor/lessor/protocol/Operation;"⟩ : MethodName)) hown (mvT hZ (hw _ (List.mem_of_getElem? (i := 1) rfl))) (mvT hZ (hw _ (List.mem_of_getElem? (i := 2) rfl))) (mvT hZ (hw _ (List.mem_of_getElem? (i := 3) rfl))) (mvT hZ (hw _ (List.mem_of_getElem? (i := 4) rfl))) (by decide) (backOf (W := 0) (own_1 l Z a0 hw [] ((p1 &&& (2147483647 : Int32)) % (14 : Int32)) (some (.ref r2)) h0 n0 Z0 hP2) hZ (hw _ (List.mem_of_getElem? (i := 4) rfl)) (hw _ (List.mem_of_getElem? (i := 3) rfl)) (by decide) (by decide)) (g := (mkF m 9 #[.val (.int p1), .val (.int ((p1 &&& (2147483647 : Int32)) % (14 : Int32))), .unset, .unset, .unset, .unset, .unset] [(.int ((p1 &&& (2147483647 : Int32)) % (14 : Int32)))])) rfl (by rw [hml]; rfl) (argsL := [(.int ((p1 &&& (2147483647 : Int32)) % (14 : Int32)))]) (rest := []) (lenOf pd_0_0 rfl) rfl (by show 2 * 0 + _ ≤ _; exact Nat.le_of_eq rfl) (hb hby at_9) (fun _ _ => ⟨rfl, e0, (by decide : 0 + 0 ≤ _), (by decide : 0 + 0 ≤ _)⟩)
  dsimp only [Pt.U, Pt.locs, Pt.cells, Pt.slots] at X2 l2 y2 z2 st2 hQ2
  subst l2 y2 z2
  obtain ⟨rfl, N2q, e2⟩ := hQ2      -- what it returned, that it wrote nothing old, and the rest of your Q1
  have N2 := Fr.app N0 N2q
  -- pc 14: com/example/lessor/lessor/protocol/Operation.isBatched by the contract of the body that the receiver's class selects, rm2
  obtain ⟨cq3, kq3, q3a, q3b, q3c⟩ := isOf hZ e2 E_r2
  obtain ⟨_, _, ⟨T3, L3, k3, n3⟩, -, X3, ⟨Lc3, hQ3, l3, y3, z3⟩, st3⟩ := X2.virtualBack hx (y := (⟨"com/example/lessor/lessor/protocol/Operation", "isBatched", "()Z"⟩ : MethodName)) (z := (⟨"com/example/lessor/lessor/protocol/Operation", "isBatched", "()Z"⟩ : MethodName)) hown (mvT hZ (hw _ (List.mem_of_getElem? (i := 8) rfl))) (mvT hZ (hw _ (List.mem_of_getElem? (i := 9) rfl))) (notFace_of_selects (args := #[]) (mvT hZ (hw _ (List.mem_of_getElem? (i := 11) rfl)))) (mvT hZ (hw _ (List.mem_of_getElem? (i := 11) rfl))) (mvT hZ (hw _ (List.mem_of_getElem? (i := 10) rfl))) (by decide) (backOf (W := 0) (own_2 l Z a0 hw [] r2 (some (.int r3)) h0 n0 Z0 hP3) hZ (hw _ (List.mem_of_getElem? (i := 12) rfl)) (hw _ (List.mem_of_getElem? (i := 6) rfl)) (by decide) (by decide)) q3a q3c (g := (mkF m 14 #[.val (.int p1), .val (.int ((p1 &&& (2147483647 : Int32)) % (14 : Int32))), .val (.ref r2), .unset, .unset, .unset, .unset] [(.ref r2)])) rfl (by rw [hml]; rfl) (Steps.refl _) (argsL := []) (rest := []) (lenOf pd_0_1 rfl) rfl (by show 2 * 0 + _ ≤ _; exact Nat.le_of_eq rfl) (hb hby at_14) (fun _ _ => ⟨rfl, e2, (by decide : 0 + 0 ≤ _), (by decide : 0 + 0 ≤ _)⟩)
  dsimp only [Pt.U, Pt.locs, Pt.cells, Pt.slots] at X3 l3 y3 z3 st3 hQ3
  subst l3 y3 z3
  obtain ⟨rfl, N3q, e3⟩ := hQ3      -- what it returned, that it wrote nothing old, and the rest of your Q2
  have N3 := Fr.app N2 N3q
  -- pc 31: com/example/lessor/lessor/protocol/Operation.arity by the contract of the body that the receiver's class selects, rm3
  obtain ⟨cq4, kq4, q4a, q4b, q4c⟩ := isOf hZ e3 E_r2
  obtain ⟨_, _, ⟨T4, L4, k4, n4⟩, -, X4, ⟨Lc4, hQ4, l4, y4, z4⟩, st4⟩ := X3.virtualBack hx (y := (⟨"com/example/lessor/lessor/protocol/Operation", "arity", "()I"⟩ : MethodName)) (z := (⟨"com/example/lessor/lessor/protocol/Operation", "arity", "()I"⟩ : MethodName)) hown (mvT hZ (hw _ (List.mem_of_getElem? (i := 14) rfl))) (mvT hZ (hw _ (List.mem_of_getElem? (i := 15) rfl))) (notFace_of_selects (args := #[]) (mvT hZ (hw _ (List.mem_of_getElem? (i := 17) rfl)))) (mvT hZ (hw _ (List.mem_of_getElem? (i := 17) rfl))) (mvT hZ (hw _ (List.mem_of_getElem? (i := 16) rfl))) (by decide) (backOf (W := 0) (own_3 l Z a0 hw [] r2 (some (.int r4)) h0 n0 Z0 hP4) hZ (hw _ (List.mem_of_getElem? (i := 18) rfl)) (hw _ (List.mem_of_getElem? (i := 6) rfl)) (by decide) (by decide)) q4a q4c (g := (mkF m 31 #[.val (.int p1), .val (.int ((p1 &&& (2147483647 : Int32)) % (14 : Int32))), .val (.ref r2), .val (.int r3), .val (.int (0 : Int32)), .unset, .unset] [(.ref r2)])) rfl (by rw [hml]; rfl) (Steps.refl _) (argsL := []) (rest := []) (lenOf pd_0_2 rfl) rfl (by show 2 * 0 + _ ≤ _; exact Nat.le_of_eq rfl) (hb hby at_31) (fun _ _ => ⟨rfl, e3, (by decide : 0 + 0 ≤ _), (by decide : 0 + 0 ≤ _)⟩)
  dsimp only [Pt.U, Pt.locs, Pt.cells, Pt.slots] at X4 l4 y4 z4 st4 hQ4
  subst l4 y4 z4
  obtain ⟨rfl, N4q, e4⟩ := hQ4      -- what it returned, that it wrote nothing old, and the rest of your Q3
  have N4 := Fr.app N3 N4q
  -- pc 37: com/example/lessor/lessor/protocol/Operation.changes by the contract of the body that the receiver's class selects, rm4
  obtain ⟨cq5, kq5, q5a, q5b, q5c⟩ := isOf hZ e4 E_r2
  obtain ⟨_, _, ⟨T5, L5, k5, n5⟩, -, X5, ⟨Lc5, hQ5, l5, y5, z5⟩, st5⟩ := X4.virtualBack hx (y := (⟨"com/example/lessor/lessor/protocol/Operation", "changes", "()Z"⟩ : MethodName)) (z := (⟨"com/example/lessor/lessor/protocol/Operation", "changes", "()Z"⟩ : MethodName)) hown (mvT hZ (hw _ (List.mem_of_getElem? (i := 21) rfl))) (mvT hZ (hw _ (List.mem_of_getElem? (i := 22) rfl))) (notFace_of_selects (args := #[]) (mvT hZ (hw _ (List.mem_of_getElem? (i := 24) rfl)))) (mvT hZ (hw _ (List.mem_of_getElem? (i := 24) rfl))) (mvT hZ (hw _ (List.mem_of_getElem? (i := 23) rfl))) (by decide) (backOf (W := 0) (own_4 l Z a0 hw [] r2 (some (.int r5)) h0 n0 Z0 hP5) hZ (hw _ (List.mem_of_getElem? (i := 25) rfl)) (hw _ (List.mem_of_getElem? (i := 6) rfl)) (by decide) (by decide)) q5a q5c (g := (mkF m 37 #[.val (.int p1), .val (.int ((p1 &&& (2147483647 : Int32)) % (14 : Int32))), .val (.ref r2), .val (.int r3), .val (.int (0 : Int32)), .val (.int r4), .unset] [(.ref r2)])) rfl (by rw [hml]; rfl) (Steps.refl _) (argsL := []) (rest := []) (lenOf pd_0_1 rfl) rfl (by show 2 * 0 + _ ≤ _; exact Nat.le_of_eq rfl) (hb hby at_37) (fun _ _ => ⟨rfl, e4, (by decide : 0 + 0 ≤ _), (by decide : 0 + 0 ≤ _)⟩)
  dsimp only [Pt.U, Pt.locs, Pt.cells, Pt.slots] at X5 l5 y5 z5 st5 hQ5
  subst l5 y5 z5
  obtain ⟨rfl, N5q, e5⟩ := hQ5      -- what it returned, that it wrote nothing old, and the rest of your Q4
  have N5 := Fr.app N4 N5q
  -- pc 44: com/example/lessor/lessor/protocol/Operation.isVariadic by the contract of the body that the receiver's class selects, rm5
  obtain ⟨cq6, kq6, q6a, q6b, q6c⟩ := isOf hZ e5 E_r2
  obtain ⟨_, _, ⟨T6, L6, k6, n6⟩, -, X6, ⟨Lc6, hQ6, l6, y6, z6⟩, st6⟩ := X5.virtualBack hx (y := (⟨"com/example/lessor/lessor/protocol/Operation", "isVariadic", "()Z"⟩ : MethodName)) (z := (⟨"com/example/lessor/lessor/protocol/Operation", "isVariadic", "()Z"⟩ : MethodName)) hown (mvT hZ (hw _ (List.mem_of_getElem? (i := 31) rfl))) (mvT hZ (hw _ (List.mem_of_getElem? (i := 32) rfl))) (notFace_of_selects (args := #[]) (mvT hZ (hw _ (List.mem_of_getElem? (i := 34) rfl)))) (mvT hZ (hw _ (List.mem_of_getElem? (i := 34) rfl))) (mvT hZ (hw _ (List.mem_of_getElem? (i := 33) rfl))) (by decide) (backOf (W := 0) (own_5 l Z a0 hw [] r2 (some (.int r6)) h0 n0 Z0 hP6) hZ (hw _ (List.mem_of_getElem? (i := 35) rfl)) (hw _ (List.mem_of_getElem? (i := 6) rfl)) (by decide) (by decide)) q6a q6c (g := (mkF m 44 #[.val (.int p1), .val (.int ((p1 &&& (2147483647 : Int32)) % (14 : Int32))), .val (.ref r2), .val (.int r3), .val (.int (0 : Int32)), .val (.int r4), .unset] [(.ref r2)])) rfl (by rw [hml]; rfl) (Steps.refl _) (argsL := []) (rest := []) (lenOf pd_0_1 rfl) rfl (by show 2 * 0 + _ ≤ _; exact Nat.le_of_eq rfl) (hb hby at_44) (fun _ _ => ⟨rfl, e5, (by decide : 0 + 0 ≤ _), (by decide : 0 + 0 ≤ _)⟩)
  dsimp only [Pt.U, Pt.locs, Pt.cells, Pt.slots] at X6 l6 y6 z6 st6 hQ6
  subst l6 y6 z6
  obtain ⟨rfl, N6q, e6⟩ := hQ6      -- what it returned, that it wrote nothing old, and the rest of your Q5
  have N6 := Fr.app N5 N6q
  obtain ⟨fs, hr, hrun, hended, hW, hsame⟩ := X6.leave (v := some (.int (1 : Int32))) (fun h => by rw [Bd.returns] at h; cases h)
  refine ⟨_, _, pre0 _ ?_, hrun, hended, _, _, rfl, ?_, ⟨_, rfl⟩, hW, hsame.mono (by decide) (by decide)⟩
  -- 4. STEPS
  · show Steps p.tables e below (s₁.setTop (mkF m 0 #[.val (.int p1), .unset, .unset, .unset, .unset, .unset, .unset] [])) _
    refine XS.iloadN X0.here hx rfl (hb hby at_0) rfl ?_
    show Steps p.tables e below (s₁.setTop (mkF m 1 #[.val (.int p1), .unset, .unset, .unset, .unset, .unset, .unset] [(.int p1)])) _
    refine X0.ldcInt hx hown (mvT hZ (hw _ (List.mem_of_getElem? (i := 0) rfl))) (g := (mkF m 1 #[.val (.int p1), .unset, .unset, .unset, .unset, .unset, .unset] [(.int p1)])) rfl (hb hby at_1) _ ?_
    show Steps p.tables e below (s₁.setTop (mkF m 3 #[.val (.int p1), .unset, .unset, .unset, .unset, .unset, .unset] [(.int (2147483647 : Int32)), (.int p1)])) _
    refine XS.iand X0.here hx rfl (hb hby at_3) rfl ?_
    show Steps p.tables e below (s₁.setTop (mkF m 4 #[.val (.int p1), .unset, .unset, .unset, .unset, .unset, .unset] [(.int (p1 &&& (2147483647 : Int32)))])) _
    refine XS.bipush X0.here hx rfl (hb hby at_4) ?_
    show Steps p.tables e below (s₁.setTop (mkF m 6 #[.val (.int p1), .unset, .unset, .unset, .unset, .unset, .unset] [(.int (14 : Int32)), (.int (p1 &&& (2147483647 : Int32)))])) _
    refine Jvm.RoadKit.iremM X0 hx rfl (hb hby at_6) rfl (by decide) ?_
    show Steps p.tables e below (s₁.setTop (mkF m 7 #[.val (.int p1), .unset, .unset, .unset, .unset, .unset, .unset] [(.int ((p1 &&& (2147483647 : Int32)) % (14 : Int32)))])) _
    refine XS.istoreN X0.here hx rfl (hb hby at_7) rfl (l' := #[.val (.int p1), .val (.int ((p1 &&& (2147483647 : Int32)) % (14 : Int32))), .unset, .unset, .unset, .unset, .unset]) rfl ?_
    show Steps p.tables e below (s₁.setTop (mkF m 8 #[.val (.int p1), .val (.int ((p1 &&& (2147483647 : Int32)) % (14 : Int32))), .unset, .unset, .unset, .unset, .unset] [])) _
    refine XS.iloadN X0.here hx rfl (hb hby at_8) rfl ?_
    show Steps p.tables e below (s₁.setTop (mkF m 9 #[.val (.int p1), .val (.int ((p1 &&& (2147483647 : Int32)) % (14 : Int32))), .unset, .unset, .unset, .unset, .unset] [(.int ((p1 &&& (2147483647 : Int32)) % (14 : Int32)))])) _
    refine st2 _ ?_
    show Steps p.tables e below (T2.setTop (mkF m 12 #[.val (.int p1), .val (.int ((p1 &&& (2147483647 : Int32)) % (14 : Int32))), .unset, .unset, .unset, .unset, .unset] [(.ref r2)])) _
    refine XS.astoreN X2.here hx rfl (hb hby at_12) rfl rfl (l' := #[.val (.int p1), .val (.int ((p1 &&& (2147483647 : Int32)) % (14 : Int32))), .val (.ref r2), .unset, .unset, .unset, .unset]) rfl ?_
    show Steps p.tables e below (T2.setTop (mkF m 13 #[.val (.int p1), .val (.int ((p1 &&& (2147483647 : Int32)) % (14 : Int32))), .val (.ref r2), .unset, .unset, .unset, .unset] [])) _
    refine XS.aloadN X2.here hx rfl (hb hby at_13) rfl rfl ?_
    show Steps p.tables e below (T2.setTop (mkF m 14 #[.val (.int p1), .val (.int ((p1 &&& (2147483647 : Int32)) % (14 : Int32))), .val (.ref r2), .unset, .unset, .unset, .unset] [(.ref r2)])) _
    refine st3.trans ?_
    show Steps p.tables e below (T3.setTop (mkF m 17 #[.val (.int p1), .val (.int ((p1 &&& (2147483647 : Int32)) % (14 : Int32))), .val (.ref r2), .unset, .unset, .unset, .unset] [(.int r3)])) _
    refine XS.istoreN X3.here hx rfl (hb hby at_17) rfl (l' := #[.val (.int p1), .val (.int ((p1 &&& (2147483647 : Int32)) % (14 : Int32))), .val (.ref r2), .val (.int r3), .unset, .unset, .unset]) rfl ?_
    show Steps p.tables e below (T3.setTop (mkF m 18 #[.val (.int p1), .val (.int ((p1 &&& (2147483647 : Int32)) % (14 : Int32))), .val (.ref r2), .val (.int r3), .unset, .unset, .unset] [])) _
    refine XS.iloadN X3.here hx rfl (hb hby at_18) rfl ?_
    show Steps p.tables e below (T3.setTop (mkF m 19 #[.val (.int p1), .val (.int ((p1 &&& (2147483647 : Int32)) % (14 : Int32))), .val (.ref r2), .val (.int r3), .unset, .unset, .unset] [(.int ((p1 &&& (2147483647 : Int32)) % (14 : Int32)))])) _
    refine XS.iconst X3.here hx rfl (hb hby at_19) ?_
    show Steps p.tables e below (T3.setTop (mkF m 20 #[.val (.int p1), .val (.int ((p1 &&& (2147483647 : Int32)) % (14 : Int32))), .val (.ref r2), .val (.int r3), .unset, .unset, .unset] [(.int (5 : Int32)), (.int ((p1 &&& (2147483647 : Int32)) % (14 : Int32)))])) _
    refine XS.icmpYes X3.here hx rfl (pc0 := 20) (pc' := 27) rfl (hb hby at_20) rfl (flt hc20).2.1 (by decide) (by decide) ?_
    show Steps p.tables e below (T3.setTop (mkF m 27 #[.val (.int p1), .val (.int ((p1 &&& (2147483647 : Int32)) % (14 : Int32))), .val (.ref r2), .val (.int r3), .unset, .unset, .unset] [])) _
    refine XS.iconst X3.here hx rfl (hb hby at_27) ?_
    show Steps p.tables e below (T3.setTop (mkF m 28 #[.val (.int p1), .val (.int ((p1 &&& (2147483647 : Int32)) % (14 : Int32))), .val (.ref r2), .val (.int r3), .unset, .unset, .unset] [(.int (0 : Int32))])) _
    refine XS.istore X3.here hx rfl (hb hby at_28) rfl (l' := #[.val (.int p1), .val (.int ((p1 &&& (2147483647 : Int32)) % (14 : Int32))), .val (.ref r2), .val (.int r3), .val (.int (0 : Int32)), .unset, .unset]) rfl ?_
    show Steps p.tables e below (T3.setTop (mkF m 30 #[.val (.int p1), .val (.int ((p1 &&& (2147483647 : Int32)) % (14 : Int32))), .val (.ref r2), .val (.int r3), .val (.int (0 : Int32)), .unset, .unset] [])) _
    refine XS.aloadN X3.here hx rfl (hb hby at_30) rfl rfl ?_
    show Steps p.tables e below (T3.setTop (mkF m 31 #[.val (.int p1), .val (.int ((p1 &&& (2147483647 : Int32)) % (14 : Int32))), .val (.ref r2), .val (.int r3), .val (.int (0 : Int32)), .unset, .unset] [(.ref r2)])) _
    refine st4.trans ?_
    show Steps p.tables e below (T4.setTop (mkF m 34 #[.val (.int p1), .val (.int ((p1 &&& (2147483647 : Int32)) % (14 : Int32))), .val (.ref r2), .val (.int r3), .val (.int (0 : Int32)), .unset, .unset] [(.int r4)])) _
    refine XS.istore X4.here hx rfl (hb hby at_34) rfl (l' := #[.val (.int p1), .val (.int ((p1 &&& (2147483647 : Int32)) % (14 : Int32))), .val (.ref r2), .val (.int r3), .val (.int (0 : Int32)), .val (.int r4), .unset]) rfl ?_
    show Steps p.tables e below (T4.setTop (mkF m 36 #[.val (.int p1), .val (.int ((p1 &&& (2147483647 : Int32)) % (14 : Int32))), .val (.ref r2), .val (.int r3), .val (.int (0 : Int32)), .val (.int r4), .unset] [])) _
    refine XS.aloadN X4.here hx rfl (hb hby at_36) rfl rfl ?_
    show Steps p.tables e below (T4.setTop (mkF m 37 #[.val (.int p1), .val (.int ((p1 &&& (2147483647 : Int32)) % (14 : Int32))), .val (.ref r2), .val (.int r3), .val (.int (0 : Int32)), .val (.int r4), .unset] [(.ref r2)])) _
    refine st5.trans ?_
    show Steps p.tables e below (T5.setTop (mkF m 40 #[.val (.int p1), .val (.int ((p1 &&& (2147483647 : Int32)) % (14 : Int32))), .val (.ref r2), .val (.int r3), .val (.int (0 : Int32)), .val (.int r4), .unset] [(.int r5)])) _
    refine XS.ifNo X5.here hx rfl (hb hby at_40) rfl ((if0 _ _).trans (feq hx1).1) ?_
    show Steps p.tables e below (T5.setTop (mkF m 43 #[.val (.int p1), .val (.int ((p1 &&& (2147483647 : Int32)) % (14 : Int32))), .val (.ref r2), .val (.int r3), .val (.int (0 : Int32)), .val (.int r4), .unset] [])) _
    refine XS.aloadN X5.here hx rfl (hb hby at_43) rfl rfl ?_
    show Steps p.tables e below (T5.setTop (mkF m 44 #[.val (.int p1), .val (.int ((p1 &&& (2147483647 : Int32)) % (14 : Int32))), .val (.ref r2), .val (.int r3), .val (.int (0 : Int32)), .val (.int r4), .unset] [(.ref r2)])) _
    refine st6.trans ?_
    show Steps p.tables e below (T6.setTop (mkF m 47 #[.val (.int p1), .val (.int ((p1 &&& (2147483647 : Int32)) % (14 : Int32))), .val (.ref r2), .val (.int r3), .val (.int (0 : Int32)), .val (.int r4), .unset] [(.int r6)])) _
    refine XS.ifNo X6.here hx rfl (hb hby at_47) rfl ((if0 _ _).trans (teq hx2).2) ?_
    show Steps p.tables e below (T6.setTop (mkF m 50 #[.val (.int p1), .val (.int ((p1 &&& (2147483647 : Int32)) % (14 : Int32))), .val (.ref r2), .val (.int r3), .val (.int (0 : Int32)), .val (.int r4), .unset] [])) _
    refine XS.iload X6.here hx rfl (hb hby at_50) rfl ?_
    show Steps p.tables e below (T6.setTop (mkF m 52 #[.val (.int p1), .val (.int ((p1 &&& (2147483647 : Int32)) % (14 : Int32))), .val (.ref r2), .val (.int r3), .val (.int (0 : Int32)), .val (.int r4), .unset] [(.int r4)])) _
    refine XS.iconst X6.here hx rfl (hb hby at_52) ?_
    show Steps p.tables e below (T6.setTop (mkF m 53 #[.val (.int p1), .val (.int ((p1 &&& (2147483647 : Int32)) % (14 : Int32))), .val (.ref r2), .val (.int r3), .val (.int (0 : Int32)), .val (.int r4), .unset] [(.int (1 : Int32)), (.int r4)])) _
    refine XS.icmpYes X6.here hx rfl (pc0 := 53) (pc' := 66) rfl (hb hby at_53) rfl (tlt hx3).1 (by decide) (by decide) ?_
    show Steps p.tables e below (T6.setTop (mkF m 66 #[.val (.int p1), .val (.int ((p1 &&& (2147483647 : Int32)) % (14 : Int32))), .val (.ref r2), .val (.int r3), .val (.int (0 : Int32)), .val (.int r4), .unset] [])) _
    refine XS.iconst X6.here hx rfl (hb hby at_66) ?_
    show Steps p.tables e below (T6.setTop (mkF m 67 #[.val (.int p1), .val (.int ((p1 &&& (2147483647 : Int32)) % (14 : Int32))), .val (.ref r2), .val (.int r3), .val (.int (0 : Int32)), .val (.int r4), .unset] [(.int (0 : Int32))])) _
    refine XS.istore X6.here hx rfl (hb hby at_67) rfl (l' := #[.val (.int p1), .val (.int ((p1 &&& (2147483647 : Int32)) % (14 : Int32))), .val (.ref r2), .val (.int r3), .val (.int (0 : Int32)), .val (.int r4), .val (.int (0 : Int32))]) rfl ?_
    show Steps p.tables e below (T6.setTop (mkF m 69 #[.val (.int p1), .val (.int ((p1 &&& (2147483647 : Int32)) % (14 : Int32))), .val (.ref r2), .val (.int r3), .val (.int (0 : Int32)), .val (.int r4), .val (.int (0 : Int32))] [])) _
    refine XS.iloadN X6.here hx rfl (hb hby at_69) rfl ?_
    show Steps p.tables e below (T6.setTop (mkF m 70 #[.val (.int p1), .val (.int ((p1 &&& (2147483647 : Int32)) % (14 : Int32))), .val (.ref r2), .val (.int r3), .val (.int (0 : Int32)), .val (.int r4), .val (.int (0 : Int32))] [(.int r3)])) _
    refine XS.iload X6.here hx rfl (hb hby at_70) rfl ?_
    show Steps p.tables e below (T6.setTop (mkF m 72 #[.val (.int p1), .val (.int ((p1 &&& (2147483647 : Int32)) % (14 : Int32))), .val (.ref r2), .val (.int r3), .val (.int (0 : Int32)), .val (.int r4), .val (.int (0 : Int32))] [(.int (0 : Int32)), (.int r3)])) _
    refine XS.icmpNo X6.here hx rfl (hb hby at_72) rfl (teq hx4).2 ?_
    show Steps p.tables e below (T6.setTop (mkF m 75 #[.val (.int p1), .val (.int ((p1 &&& (2147483647 : Int32)) % (14 : Int32))), .val (.ref r2), .val (.int r3), .val (.int (0 : Int32)), .val (.int r4), .val (.int (0 : Int32))] [])) _
    refine XS.iloadN X6.here hx rfl (hb hby at_75) rfl ?_
    show Steps p.tables e below (T6.setTop (mkF m 76 #[.val (.int p1), .val (.int ((p1 &&& (2147483647 : Int32)) % (14 : Int32))), .val (.ref r2), .val (.int r3), .val (.int (0 : Int32)), .val (.int r4), .val (.int (0 : Int32))] [(.int r3)])) _
    refine XS.iload X6.here hx rfl (hb hby at_76) rfl ?_
    show Steps p.tables e below (T6.setTop (mkF m 78 #[.val (.int p1), .val (.int ((p1 &&& (2147483647 : Int32)) % (14 : Int32))), .val (.ref r2), .val (.int r3), .val (.int (0 : Int32)), .val (.int r4), .val (.int (0 : Int32))] [(.int (0 : Int32)), (.int r3)])) _
    refine XS.icmpNo X6.here hx rfl (hb hby at_78) rfl (teq hx5).2 ?_
    show Steps p.tables e below (T6.setTop (mkF m 81 #[.val (.int p1), .val (.int ((p1 &&& (2147483647 : Int32)) % (14 : Int32))), .val (.ref r2), .val (.int r3), .val (.int (0 : Int32)), .val (.int r4), .val (.int (0 : Int32))] [])) _
    refine XS.iconst X6.here hx rfl (hb hby at_81) ?_
    show Steps p.tables e below (T6.setTop (mkF m 82 #[.val (.int p1), .val (.int ((p1 &&& (2147483647 : Int32)) % (14 : Int32))), .val (.ref r2), .val (.int r3), .val (.int (0 : Int32)), .val (.int r4), .val (.int (0 : Int32))] [(.int (1 : Int32))])) _
    refine XS.goto X6.here hx rfl (pc0 := 82) (pc' := 86) rfl (hb hby at_82) (by decide) (by decide) ?_
    show Steps p.tables e below (T6.setTop (mkF m 86 #[.val (.int p1), .val (.int ((p1 &&& (2147483647 : Int32)) % (14 : Int32))), .val (.ref r2), .val (.int r3), .val (.int (0 : Int32)), .val (.int r4), .val (.int (0 : Int32))] [(.int (1 : Int32))])) _
    exact retN X6 hx (t := .boolean) Bd.returns (by simp) (hb hby at_86) hr
  · show Q0_tfftff Z p1 h0 n0 _ T6.heap _
    exact ⟨rfl, N6⟩
def Q0_fffffff (Z : State) (p1 : Int32) (h0 : Heap) (n0 : Nat) (v : Option Value) (h : Heap) (L : List Loc) : Prop := v = some (.int (1 : Int32)) ∧ Fr n0 L
set_option maxRecDepth 65536 in
set_option maxHeartbeats 40000000 in
theorem rm0_fffffff (l : Launch) (Z : State) (a0 : Array Value) (hw : ∀ d ∈ tables_1, d.before a0 Z = true) (ws : List Jvm.Cond) (p1 : Int32) (r2 : Addr) (r3 : Int32) (r4 : Int32) (r5 : Int32) (r6 : Int32) (h0 : Heap) (n0 : Nat) (Z0 : n0 ≤ h0.size) (hc20 : ((p1 &&& (2147483647 : Int32)) % (14 : Int32)) < (5 : Int32)) (hP2 : P1 Z h0 ((p1 &&& (2147483647 : Int32)) % (14 : Int32)) (some (.ref r2))) (E_r2 : Exa Z h0 r2 "com/example/lessor/lessor/protocol/Operation") (hP3 : P2 Z h0 r2 (some (.int r3))) (hP4 : P3 Z h0 r2 (some (.int r4))) (hP5 : P4 Z h0 r2 (some (.int r5))) (hP6 : P5 Z h0 r2 (some (.int r6))) (hx1 : ¬ (r5 = (0 : Int32))) (hx2 : r6 = (0 : Int32)) (hx3 : ¬ (r4 < (1 : Int32))) (hx4 : ¬ ((2 : Int32) < r4)) (hx5 : r3 = (1 : Int32)) (hx6 : r3 = (1 : Int32)) :
    MetFree l x (head1 (Jvm.Cond.code x code maxLocals ret :: ws) room_1) (fun a U => a = #[(.int p1)] ∧ Z.Warmed39 U.vm ∧ U.heap = h0) (fun _ _ _ _ _ => True) (fun _ U o U' => ∃ v L, o = .returned v ∧ Q0_fffffff Z p1 h0 n0 v U'.heap L ∧ FrameEnd U o U' L room_1.cells room_1.slots) := by
  refine MetFree.of_bodySF (plainFor_of_name pn_0) hisR ?_
  intro p e s m args below meth c s₁ Bd hml0 hP hK
  obtain ⟨rfl, hZ, hh⟩ := hP
  have hx := Bd.exec
  have hby := Bd.bytes
  have hml : c.maxLocals = 7 := hml0
  have hown : s.vm.findClass "com/example/lessor/lessor/protocol/OperationIsBatchedPinLaw" = some m.cls := findClass_of_methodNamed Bd.named
  have hnm := (name_of_methodNamed Bd.named Bd.method).1
  have X0 : Stand p l e room_1 s m #[(.int p1)] below meth c s₁ [] 0 0 := Stand.of_body Bd
  have e0 : s₁.heap = h0 := by rw [← hh, Bd.state]; rfl
  have N0 := Fr.nil n0
  have pre0 : ∀ t, Steps p.tables e below (s₁.setTop (mkF m 0 #[.val (.int p1), .unset, .unset, .unset, .unset, .unset, .unset] [])) t → Steps p.tables e below (s₁.setTop (entryFrame m #[(.int p1)] maxLocals)) t := fun t k => castTop (ef_0 m p1) k
  -- 3. LAWS
  -- pc 9: com/example/lessor/lessor/protocol/OperationIsBatchedPinLaw.pick by its contract rm1
  obtain ⟨_, _, ⟨T2, L2, k2, n2⟩, -, X2, ⟨Lc2, hQ2, l2, y2, z2⟩, st2⟩ := Jvm.LawKit.callS X0 hx (y := (⟨"com/example/lessor/lessor/protocol/OperationIsBatchedPinLaw", "pick", "(I)Lcom/example/lessor/lessor/protocol/Operation;"⟩ : MethodName)) hown (mvT hZ (hw _ (List.mem_of_getElem? (i := 1) rfl))) (mvT hZ (hw _ (List.mem_of_getElem? (i := 2) rfl))) (mvT hZ (hw _ (List.mem_of_getElem? (i := 3) rfl))) (mvT hZ (hw _ (List.mem_of_getElem? (i := 4) rfl))) (by decide) (backOf (W := 0) (own_1 l Z a0 hw [] ((p1 &&& (2147483647 : Int32)) % (14 : Int32)) (some (.ref r2)) h0 n0 Z0 hP2) hZ (hw _ (List.mem_of_getElem? (i := 4) rfl)) (hw _ (List.mem_of_getElem? (i := 3) rfl)) (by decide) (by decide)) (g := (mkF m 9 #[.val (.int p1), .val (.int ((p1 &&& (2147483647 : Int32)) % (14 : Int32))), .unset, .unset, .unset, .unset, .unset] [(.int ((p1 &&& (2147483647 : Int32)) % (14 : Int32)))])) rfl (by rw [hml]; rfl) (argsL := [(.int ((p1 &&& (2147483647 : Int32)) % (14 : Int32)))]) (rest := []) (lenOf pd_0_0 rfl) rfl (by show 2 * 0 + _ ≤ _; exact Nat.le_of_eq rfl) (hb hby at_9) (fun _ _ => ⟨rfl, e0, (by decide : 0 + 0 ≤ _), (by decide : 0 + 0 ≤ _)⟩)
  dsimp only [Pt.U, Pt.locs, Pt.cells, Pt.slots] at X2 l2 y2 z2 st2 hQ2
  subst l2 y2 z2
  obtain ⟨rfl, N2q, e2⟩ := hQ2      -- what it returned, that it wrote nothing old, and the rest of your Q1
  have N2 := Fr.app N0 N2q
  -- pc 14: com/example/lessor/lessor/protocol/Operation.isBatched by the contract of the body that the receiver's class selects, rm2
  obtain ⟨cq3, kq3, q3a, q3b, q3c⟩ := isOf hZ e2 E_r2
  obtain ⟨_, _, ⟨T3, L3, k3, n3⟩, -, X3, ⟨Lc3, hQ3, l3, y3, z3⟩, st3⟩ := X2.virtualBack hx (y := (⟨"com/example/lessor/lessor/protocol/Operation", "isBatched", "()Z"⟩ : MethodName)) (z := (⟨"com/example/lessor/lessor/protocol/Operation", "isBatched", "()Z"⟩ : MethodName)) hown (mvT hZ (hw _ (List.mem_of_getElem? (i := 8) rfl))) (mvT hZ (hw _ (List.mem_of_getElem? (i := 9) rfl))) (notFace_of_selects (args := #[]) (mvT hZ (hw _ (List.mem_of_getElem? (i := 11) rfl)))) (mvT hZ (hw _ (List.mem_of_getElem? (i := 11) rfl))) (mvT hZ (hw _ (List.mem_of_getElem? (i := 10) rfl))) (by decide) (backOf (W := 0) (own_2 l Z a0 hw [] r2 (some (.int r3)) h0 n0 Z0 hP3) hZ (hw _ (List.mem_of_getElem? (i := 12) rfl)) (hw _ (List.mem_of_getElem? (i := 6) rfl)) (by decide) (by decide)) q3a q3c (g := (mkF m 14 #[.val (.int p1), .val (.int ((p1 &&& (2147483647 : Int32)) % (14 : Int32))), .val (.ref r2), .unset, .unset, .unset, .unset] [(.ref r2)])) rfl (by rw [hml]; rfl) (Steps.refl _) (argsL := []) (rest := []) (lenOf pd_0_1 rfl) rfl (by show 2 * 0 + _ ≤ _; exact Nat.le_of_eq rfl) (hb hby at_14) (fun _ _ => ⟨rfl, e2, (by decide : 0 + 0 ≤ _), (by decide : 0 + 0 ≤ _)⟩)
  dsimp only [Pt.U, Pt.locs, Pt.cells, Pt.slots] at X3 l3 y3 z3 st3 hQ3
  subst l3 y3 z3
  obtain ⟨rfl, N3q, e3⟩ := hQ3      -- what it returned, that it wrote nothing old, and the rest of your Q2
  have N3 := Fr.app N2 N3q
  -- pc 31: com/example/lessor/lessor/protocol/Operation.arity by the contract of the body that the receiver's class selects, rm3
  obtain ⟨cq4, kq4, q4a, q4b, q4c⟩ := isOf hZ e3 E_r2
  obtain ⟨_, _, ⟨T4, L4, k4, n4⟩, -, X4, ⟨Lc4, hQ4, l4, y4, z4⟩, st4⟩ := X3.virtualBack hx (y := (⟨"com/example/lessor/lessor/protocol/Operation", "arity", "()I"⟩ : MethodName)) (z := (⟨"com/example/lessor/lessor/protocol/Operation", "arity", "()I"⟩ : MethodName)) hown (mvT hZ (hw _ (List.mem_of_getElem? (i := 14) rfl))) (mvT hZ (hw _ (List.mem_of_getElem? (i := 15) rfl))) (notFace_of_selects (args := #[]) (mvT hZ (hw _ (List.mem_of_getElem? (i := 17) rfl)))) (mvT hZ (hw _ (List.mem_of_getElem? (i := 17) rfl))) (mvT hZ (hw _ (List.mem_of_getElem? (i := 16) rfl))) (by decide) (backOf (W := 0) (own_3 l Z a0 hw [] r2 (some (.int r4)) h0 n0 Z0 hP4) hZ (hw _ (List.mem_of_getElem? (i := 18) rfl)) (hw _ (List.mem_of_getElem? (i := 6) rfl)) (by decide) (by decide)) q4a q4c (g := (mkF m 31 #[.val (.int p1), .val (.int ((p1 &&& (2147483647 : Int32)) % (14 : Int32))), .val (.ref r2), .val (.int r3), .val (.int (1 : Int32)), .unset, .unset] [(.ref r2)])) rfl (by rw [hml]; rfl) (Steps.refl _) (argsL := []) (rest := []) (lenOf pd_0_2 rfl) rfl (by show 2 * 0 + _ ≤ _; exact Nat.le_of_eq rfl) (hb hby at_31) (fun _ _ => ⟨rfl, e3, (by decide : 0 + 0 ≤ _), (by decide : 0 + 0 ≤ _)⟩)
  dsimp only [Pt.U, Pt.locs, Pt.cells, Pt.slots] at X4 l4 y4 z4 st4 hQ4
  subst l4 y4 z4
  obtain ⟨rfl, N4q, e4⟩ := hQ4      -- what it returned, that it wrote nothing old, and the rest of your Q3
  have N4 := Fr.app N3 N4q
  -- pc 37: com/example/lessor/lessor/protocol/Operation.changes by the contract of the body that the receiver's class selects, rm4
  obtain ⟨cq5, kq5, q5a, q5b, q5c⟩ := isOf hZ e4 E_r2
  obtain ⟨_, _, ⟨T5, L5, k5, n5⟩, -, X5, ⟨Lc5, hQ5, l5, y5, z5⟩, st5⟩ := X4.virtualBack hx (y := (⟨"com/example/lessor/lessor/protocol/Operation", "changes", "()Z"⟩ : MethodName)) (z := (⟨"com/example/lessor/lessor/protocol/Operation", "changes", "()Z"⟩ : MethodName)) hown (mvT hZ (hw _ (List.mem_of_getElem? (i := 21) rfl))) (mvT hZ (hw _ (List.mem_of_getElem? (i := 22) rfl))) (notFace_of_selects (args := #[]) (mvT hZ (hw _ (List.mem_of_getElem? (i := 24) rfl)))) (mvT hZ (hw _ (List.mem_of_getElem? (i := 24) rfl))) (mvT hZ (hw _ (List.mem_of_getElem? (i := 23) rfl))) (by decide) (backOf (W := 0) (own_4 l Z a0 hw [] r2 (some (.int r5)) h0 n0 Z0 hP5) hZ (hw _ (List.mem_of_getElem? (i := 25) rfl)) (hw _ (List.mem_of_getElem? (i := 6) rfl)) (by decide) (by decide)) q5a q5c (g := (mkF m 37 #[.val (.int p1), .val (.int ((p1 &&& (2147483647 : Int32)) % (14 : Int32))), .val (.ref r2), .val (.int r3), .val (.int (1 : Int32)), .val (.int r4), .unset] [(.ref r2)])) rfl (by rw [hml]; rfl) (Steps.refl _) (argsL := []) (rest := []) (lenOf pd_0_1 rfl) rfl (by show 2 * 0 + _ ≤ _; exact Nat.le_of_eq rfl) (hb hby at_37) (fun _ _ => ⟨rfl, e4, (by decide : 0 + 0 ≤ _), (by decide : 0 + 0 ≤ _)⟩)
  dsimp only [Pt.U, Pt.locs, Pt.cells, Pt.slots] at X5 l5 y5 z5 st5 hQ5
  subst l5 y5 z5
  obtain ⟨rfl, N5q, e5⟩ := hQ5      -- what it returned, that it wrote nothing old, and the rest of your Q4
  have N5 := Fr.app N4 N5q
  -- pc 44: com/example/lessor/lessor/protocol/Operation.isVariadic by the contract of the body that the receiver's class selects, rm5
  obtain ⟨cq6, kq6, q6a, q6b, q6c⟩ := isOf hZ e5 E_r2
  obtain ⟨_, _, ⟨T6, L6, k6, n6⟩, -, X6, ⟨Lc6, hQ6, l6, y6, z6⟩, st6⟩ := X5.virtualBack hx (y := (⟨"com/example/lessor/lessor/protocol/Operation", "isVariadic", "()Z"⟩ : MethodName)) (z := (⟨"com/example/lessor/lessor/protocol/Operation", "isVariadic", "()Z"⟩ : MethodName)) hown (mvT hZ (hw _ (List.mem_of_getElem? (i := 31) rfl))) (mvT hZ (hw _ (List.mem_of_getElem? (i := 32) rfl))) (notFace_of_selects (args := #[]) (mvT hZ (hw _ (List.mem_of_getElem? (i := 34) rfl)))) (mvT hZ (hw _ (List.mem_of_getElem? (i := 34) rfl))) (mvT hZ (hw _ (List.mem_of_getElem? (i := 33) rfl))) (by decide) (backOf (W := 0) (own_5 l Z a0 hw [] r2 (some (.int r6)) h0 n0 Z0 hP6) hZ (hw _ (List.mem_of_getElem? (i := 35) rfl)) (hw _ (List.mem_of_getElem? (i := 6) rfl)) (by decide) (by decide)) q6a q6c (g := (mkF m 44 #[.val (.int p1), .val (.int ((p1 &&& (2147483647 : Int32)) % (14 : Int32))), .val (.ref r2), .val (.int r3), .val (.int (1 : Int32)), .val (.int r4), .unset] [(.ref r2)])) rfl (by rw [hml]; rfl) (Steps.refl _) (argsL := []) (rest := []) (lenOf pd_0_1 rfl) rfl (by show 2 * 0 + _ ≤ _; exact Nat.le_of_eq rfl) (hb hby at_44) (fun _ _ => ⟨rfl, e5, (by decide : 0 + 0 ≤ _), (by decide : 0 + 0 ≤ _)⟩)
  dsimp only [Pt.U, Pt.locs, Pt.cells, Pt.slots] at X6 l6 y6 z6 st6 hQ6
  subst l6 y6 z6
  obtain ⟨rfl, N6q, e6⟩ := hQ6      -- what it returned, that it wrote nothing old, and the rest of your Q5
  have N6 := Fr.app N5 N6q
  obtain ⟨fs, hr, hrun, hended, hW, hsame⟩ := X6.leave (v := some (.int (1 : Int32))) (fun h => by rw [Bd.returns] at h; cases h)
  refine ⟨_, _, pre0 _ ?_, hrun, hended, _, _, rfl, ?_, ⟨_, rfl⟩, hW, hsame.mono (by decide) (by decide)⟩
  -- 4. STEPS
  · show Steps p.tables e below (s₁.setTop (mkF m 0 #[.val (.int p1), .unset, .unset, .unset, .unset, .unset, .unset] [])) _
    refine XS.iloadN X0.here hx rfl (hb hby at_0) rfl ?_
    show Steps p.tables e below (s₁.setTop (mkF m 1 #[.val (.int p1), .unset, .unset, .unset, .unset, .unset, .unset] [(.int p1)])) _
    refine X0.ldcInt hx hown (mvT hZ (hw _ (List.mem_of_getElem? (i := 0) rfl))) (g := (mkF m 1 #[.val (.int p1), .unset, .unset, .unset, .unset, .unset, .unset] [(.int p1)])) rfl (hb hby at_1) _ ?_
    show Steps p.tables e below (s₁.setTop (mkF m 3 #[.val (.int p1), .unset, .unset, .unset, .unset, .unset, .unset] [(.int (2147483647 : Int32)), (.int p1)])) _
    refine XS.iand X0.here hx rfl (hb hby at_3) rfl ?_
    show Steps p.tables e below (s₁.setTop (mkF m 4 #[.val (.int p1), .unset, .unset, .unset, .unset, .unset, .unset] [(.int (p1 &&& (2147483647 : Int32)))])) _
    refine XS.bipush X0.here hx rfl (hb hby at_4) ?_
    show Steps p.tables e below (s₁.setTop (mkF m 6 #[.val (.int p1), .unset, .unset, .unset, .unset, .unset, .unset] [(.int (14 : Int32)), (.int (p1 &&& (2147483647 : Int32)))])) _
    refine Jvm.RoadKit.iremM X0 hx rfl (hb hby at_6) rfl (by decide) ?_
    show Steps p.tables e below (s₁.setTop (mkF m 7 #[.val (.int p1), .unset, .unset, .unset, .unset, .unset, .unset] [(.int ((p1 &&& (2147483647 : Int32)) % (14 : Int32)))])) _
    refine XS.istoreN X0.here hx rfl (hb hby at_7) rfl (l' := #[.val (.int p1), .val (.int ((p1 &&& (2147483647 : Int32)) % (14 : Int32))), .unset, .unset, .unset, .unset, .unset]) rfl ?_
    show Steps p.tables e below (s₁.setTop (mkF m 8 #[.val (.int p1), .val (.int ((p1 &&& (2147483647 : Int32)) % (14 : Int32))), .unset, .unset, .unset, .unset, .unset] [])) _
    refine XS.iloadN X0.here hx rfl (hb hby at_8) rfl ?_
    show Steps p.tables e below (s₁.setTop (mkF m 9 #[.val (.int p1), .val (.int ((p1 &&& (2147483647 : Int32)) % (14 : Int32))), .unset, .unset, .unset, .unset, .unset] [(.int ((p1 &&& (2147483647 : Int32)) % (14 : Int32)))])) _
    refine st2 _ ?_
    show Steps p.tables e below (T2.setTop (mkF m 12 #[.val (.int p1), .val (.int ((p1 &&& (2147483647 : Int32)) % (14 : Int32))), .unset, .unset, .unset, .unset, .unset] [(.ref r2)])) _
    refine XS.astoreN X2.here hx rfl (hb hby at_12) rfl rfl (l' := #[.val (.int p1), .val (.int ((p1 &&& (2147483647 : Int32)) % (14 : Int32))), .val (.ref r2), .unset, .unset, .unset, .unset]) rfl ?_
    show Steps p.tables e below (T2.setTop (mkF m 13 #[.val (.int p1), .val (.int ((p1 &&& (2147483647 : Int32)) % (14 : Int32))), .val (.ref r2), .unset, .unset, .unset, .unset] [])) _
    refine XS.aloadN X2.here hx rfl (hb hby at_13) rfl rfl ?_
    show Steps p.tables e below (T2.setTop (mkF m 14 #[.val (.int p1), .val (.int ((p1 &&& (2147483647 : Int32)) % (14 : Int32))), .val (.ref r2), .unset, .unset, .unset, .unset] [(.ref r2)])) _
    refine st3.trans ?_
    show Steps p.tables e below (T3.setTop (mkF m 17 #[.val (.int p1), .val (.int ((p1 &&& (2147483647 : Int32)) % (14 : Int32))), .val (.ref r2), .unset, .unset, .unset, .unset] [(.int r3)])) _
    refine XS.istoreN X3.here hx rfl (hb hby at_17) rfl (l' := #[.val (.int p1), .val (.int ((p1 &&& (2147483647 : Int32)) % (14 : Int32))), .val (.ref r2), .val (.int r3), .unset, .unset, .unset]) rfl ?_
    show Steps p.tables e below (T3.setTop (mkF m 18 #[.val (.int p1), .val (.int ((p1 &&& (2147483647 : Int32)) % (14 : Int32))), .val (.ref r2), .val (.int r3), .unset, .unset, .unset] [])) _
    refine XS.iloadN X3.here hx rfl (hb hby at_18) rfl ?_
    show Steps p.tables e below (T3.setTop (mkF m 19 #[.val (.int p1), .val (.int ((p1 &&& (2147483647 : Int32)) % (14 : Int32))), .val (.ref r2), .val (.int r3), .unset, .unset, .unset] [(.int ((p1 &&& (2147483647 : Int32)) % (14 : Int32)))])) _
    refine XS.iconst X3.here hx rfl (hb hby at_19) ?_
    show Steps p.tables e below (T3.setTop (mkF m 20 #[.val (.int p1), .val (.int ((p1 &&& (2147483647 : Int32)) % (14 : Int32))), .val (.ref r2), .val (.int r3), .unset, .unset, .unset] [(.int (5 : Int32)), (.int ((p1 &&& (2147483647 : Int32)) % (14 : Int32)))])) _
    refine XS.icmpNo X3.here hx rfl (hb hby at_20) rfl (tlt hc20).2.1 ?_
    show Steps p.tables e below (T3.setTop (mkF m 23 #[.val (.int p1), .val (.int ((p1 &&& (2147483647 : Int32)) % (14 : Int32))), .val (.ref r2), .val (.int r3), .unset, .unset, .unset] [])) _
    refine XS.iconst X3.here hx rfl (hb hby at_23) ?_
    show Steps p.tables e below (T3.setTop (mkF m 24 #[.val (.int p1), .val (.int ((p1 &&& (2147483647 : Int32)) % (14 : Int32))), .val (.ref r2), .val (.int r3), .unset, .unset, .unset] [(.int (1 : Int32))])) _
    refine XS.goto X3.here hx rfl (pc0 := 24) (pc' := 28) rfl (hb hby at_24) (by decide) (by decide) ?_
    show Steps p.tables e below (T3.setTop (mkF m 28 #[.val (.int p1), .val (.int ((p1 &&& (2147483647 : Int32)) % (14 : Int32))), .val (.ref r2), .val (.int r3), .unset, .unset, .unset] [(.int (1 : Int32))])) _
    refine XS.istore X3.here hx rfl (hb hby at_28) rfl (l' := #[.val (.int p1), .val (.int ((p1 &&& (2147483647 : Int32)) % (14 : Int32))), .val (.ref r2), .val (.int r3), .val (.int (1 : Int32)), .unset, .unset]) rfl ?_
    show Steps p.tables e below (T3.setTop (mkF m 30 #[.val (.int p1), .val (.int ((p1 &&& (2147483647 : Int32)) % (14 : Int32))), .val (.ref r2), .val (.int r3), .val (.int (1 : Int32)), .unset, .unset] [])) _
    refine XS.aloadN X3.here hx rfl (hb hby at_30) rfl rfl ?_
    show Steps p.tables e below (T3.setTop (mkF m 31 #[.val (.int p1), .val (.int ((p1 &&& (2147483647 : Int32)) % (14 : Int32))), .val (.ref r2), .val (.int r3), .val (.int (1 : Int32)), .unset, .unset] [(.ref r2)])) _
    refine st4.trans ?_
    show Steps p.tables e below (T4.setTop (mkF m 34 #[.val (.int p1), .val (.int ((p1 &&& (2147483647 : Int32)) % (14 : Int32))), .val (.ref r2), .val (.int r3), .val (.int (1 : Int32)), .unset, .unset] [(.int r4)])) _
    refine XS.istore X4.here hx rfl (hb hby at_34) rfl (l' := #[.val (.int p1), .val (.int ((p1 &&& (2147483647 : Int32)) % (14 : Int32))), .val (.ref r2), .val (.int r3), .val (.int (1 : Int32)), .val (.int r4), .unset]) rfl ?_
    show Steps p.tables e below (T4.setTop (mkF m 36 #[.val (.int p1), .val (.int ((p1 &&& (2147483647 : Int32)) % (14 : Int32))), .val (.ref r2), .val (.int r3), .val (.int (1 : Int32)), .val (.int r4), .unset] [])) _
    refine XS.aloadN X4.here hx rfl (hb hby at_36) rfl rfl ?_
    show Steps p.tables e below (T4.setTop (mkF m 37 #[.val (.int p1), .val (.int ((p1 &&& (2147483647 : Int32)) % (14 : Int32))), .val (.ref r2), .val (.int r3), .val (.int (1 : Int32)), .val (.int r4), .unset] [(.ref r2)])) _
    refine st5.trans ?_
    show Steps p.tables e below (T5.setTop (mkF m 40 #[.val (.int p1), .val (.int ((p1 &&& (2147483647 : Int32)) % (14 : Int32))), .val (.ref r2), .val (.int r3), .val (.int (1 : Int32)), .val (.int r4), .unset] [(.int r5)])) _
    refine XS.ifNo X5.here hx rfl (hb hby at_40) rfl ((if0 _ _).trans (feq hx1).1) ?_
    show Steps p.tables e below (T5.setTop (mkF m 43 #[.val (.int p1), .val (.int ((p1 &&& (2147483647 : Int32)) % (14 : Int32))), .val (.ref r2), .val (.int r3), .val (.int (1 : Int32)), .val (.int r4), .unset] [])) _
    refine XS.aloadN X5.here hx rfl (hb hby at_43) rfl rfl ?_
    show Steps p.tables e below (T5.setTop (mkF m 44 #[.val (.int p1), .val (.int ((p1 &&& (2147483647 : Int32)) % (14 : Int32))), .val (.ref r2), .val (.int r3), .val (.int (1 : Int32)), .val (.int r4), .unset] [(.ref r2)])) _
    refine st6.trans ?_
    show Steps p.tables e below (T6.setTop (mkF m 47 #[.val (.int p1), .val (.int ((p1 &&& (2147483647 : Int32)) % (14 : Int32))), .val (.ref r2), .val (.int r3), .val (.int (1 : Int32)), .val (.int r4), .unset] [(.int r6)])) _
    refine XS.ifNo X6.here hx rfl (hb hby at_47) rfl ((if0 _ _).trans (teq hx2).2) ?_
    show Steps p.tables e below (T6.setTop (mkF m 50 #[.val (.int p1), .val (.int ((p1 &&& (2147483647 : Int32)) % (14 : Int32))), .val (.ref r2), .val (.int r3), .val (.int (1 : Int32)), .val (.int r4), .unset] [])) _
    refine XS.iload X6.here hx rfl (hb hby at_50) rfl ?_
    show Steps p.tables e below (T6.setTop (mkF m 52 #[.val (.int p1), .val (.int ((p1 &&& (2147483647 : Int32)) % (14 : Int32))), .val (.ref r2), .val (.int r3), .val (.int (1 : Int32)), .val (.int r4), .unset] [(.int r4)])) _
    refine XS.iconst X6.here hx rfl (hb hby at_52) ?_
    show Steps p.tables e below (T6.setTop (mkF m 53 #[.val (.int p1), .val (.int ((p1 &&& (2147483647 : Int32)) % (14 : Int32))), .val (.ref r2), .val (.int r3), .val (.int (1 : Int32)), .val (.int r4), .unset] [(.int (1 : Int32)), (.int r4)])) _
    refine XS.icmpNo X6.here hx rfl (hb hby at_53) rfl (flt hx3).1 ?_
    show Steps p.tables e below (T6.setTop (mkF m 56 #[.val (.int p1), .val (.int ((p1 &&& (2147483647 : Int32)) % (14 : Int32))), .val (.ref r2), .val (.int r3), .val (.int (1 : Int32)), .val (.int r4), .unset] [])) _
    refine XS.iload X6.here hx rfl (hb hby at_56) rfl ?_
    show Steps p.tables e below (T6.setTop (mkF m 58 #[.val (.int p1), .val (.int ((p1 &&& (2147483647 : Int32)) % (14 : Int32))), .val (.ref r2), .val (.int r3), .val (.int (1 : Int32)), .val (.int r4), .unset] [(.int r4)])) _
    refine XS.iconst X6.here hx rfl (hb hby at_58) ?_
    show Steps p.tables e below (T6.setTop (mkF m 59 #[.val (.int p1), .val (.int ((p1 &&& (2147483647 : Int32)) % (14 : Int32))), .val (.ref r2), .val (.int r3), .val (.int (1 : Int32)), .val (.int r4), .unset] [(.int (2 : Int32)), (.int r4)])) _
    refine XS.icmpNo X6.here hx rfl (hb hby at_59) rfl (flt hx4).2.2.1 ?_
    show Steps p.tables e below (T6.setTop (mkF m 62 #[.val (.int p1), .val (.int ((p1 &&& (2147483647 : Int32)) % (14 : Int32))), .val (.ref r2), .val (.int r3), .val (.int (1 : Int32)), .val (.int r4), .unset] [])) _
    refine XS.iconst X6.here hx rfl (hb hby at_62) ?_
    show Steps p.tables e below (T6.setTop (mkF m 63 #[.val (.int p1), .val (.int ((p1 &&& (2147483647 : Int32)) % (14 : Int32))), .val (.ref r2), .val (.int r3), .val (.int (1 : Int32)), .val (.int r4), .unset] [(.int (1 : Int32))])) _
    refine XS.goto X6.here hx rfl (pc0 := 63) (pc' := 67) rfl (hb hby at_63) (by decide) (by decide) ?_
    show Steps p.tables e below (T6.setTop (mkF m 67 #[.val (.int p1), .val (.int ((p1 &&& (2147483647 : Int32)) % (14 : Int32))), .val (.ref r2), .val (.int r3), .val (.int (1 : Int32)), .val (.int r4), .unset] [(.int (1 : Int32))])) _
    refine XS.istore X6.here hx rfl (hb hby at_67) rfl (l' := #[.val (.int p1), .val (.int ((p1 &&& (2147483647 : Int32)) % (14 : Int32))), .val (.ref r2), .val (.int r3), .val (.int (1 : Int32)), .val (.int r4), .val (.int (1 : Int32))]) rfl ?_
    show Steps p.tables e below (T6.setTop (mkF m 69 #[.val (.int p1), .val (.int ((p1 &&& (2147483647 : Int32)) % (14 : Int32))), .val (.ref r2), .val (.int r3), .val (.int (1 : Int32)), .val (.int r4), .val (.int (1 : Int32))] [])) _
    refine XS.iloadN X6.here hx rfl (hb hby at_69) rfl ?_
    show Steps p.tables e below (T6.setTop (mkF m 70 #[.val (.int p1), .val (.int ((p1 &&& (2147483647 : Int32)) % (14 : Int32))), .val (.ref r2), .val (.int r3), .val (.int (1 : Int32)), .val (.int r4), .val (.int (1 : Int32))] [(.int r3)])) _
    refine XS.iload X6.here hx rfl (hb hby at_70) rfl ?_
    show Steps p.tables e below (T6.setTop (mkF m 72 #[.val (.int p1), .val (.int ((p1 &&& (2147483647 : Int32)) % (14 : Int32))), .val (.ref r2), .val (.int r3), .val (.int (1 : Int32)), .val (.int r4), .val (.int (1 : Int32))] [(.int (1 : Int32)), (.int r3)])) _
    refine XS.icmpNo X6.here hx rfl (hb hby at_72) rfl (teq hx5).2 ?_
    show Steps p.tables e below (T6.setTop (mkF m 75 #[.val (.int p1), .val (.int ((p1 &&& (2147483647 : Int32)) % (14 : Int32))), .val (.ref r2), .val (.int r3), .val (.int (1 : Int32)), .val (.int r4), .val (.int (1 : Int32))] [])) _
    refine XS.iloadN X6.here hx rfl (hb hby at_75) rfl ?_
    show Steps p.tables e below (T6.setTop (mkF m 76 #[.val (.int p1), .val (.int ((p1 &&& (2147483647 : Int32)) % (14 : Int32))), .val (.ref r2), .val (.int r3), .val (.int (1 : Int32)), .val (.int r4), .val (.int (1 : Int32))] [(.int r3)])) _
    refine XS.iload X6.here hx rfl (hb hby at_76) rfl ?_
    show Steps p.tables e below (T6.setTop (mkF m 78 #[.val (.int p1), .val (.int ((p1 &&& (2147483647 : Int32)) % (14 : Int32))), .val (.ref r2), .val (.int r3), .val (.int (1 : Int32)), .val (.int r4), .val (.int (1 : Int32))] [(.int (1 : Int32)), (.int r3)])) _
    refine XS.icmpNo X6.here hx rfl (hb hby at_78) rfl (teq hx6).2 ?_
    show Steps p.tables e below (T6.setTop (mkF m 81 #[.val (.int p1), .val (.int ((p1 &&& (2147483647 : Int32)) % (14 : Int32))), .val (.ref r2), .val (.int r3), .val (.int (1 : Int32)), .val (.int r4), .val (.int (1 : Int32))] [])) _
    refine XS.iconst X6.here hx rfl (hb hby at_81) ?_
    show Steps p.tables e below (T6.setTop (mkF m 82 #[.val (.int p1), .val (.int ((p1 &&& (2147483647 : Int32)) % (14 : Int32))), .val (.ref r2), .val (.int r3), .val (.int (1 : Int32)), .val (.int r4), .val (.int (1 : Int32))] [(.int (1 : Int32))])) _
    refine XS.goto X6.here hx rfl (pc0 := 82) (pc' := 86) rfl (hb hby at_82) (by decide) (by decide) ?_
    show Steps p.tables e below (T6.setTop (mkF m 86 #[.val (.int p1), .val (.int ((p1 &&& (2147483647 : Int32)) % (14 : Int32))), .val (.ref r2), .val (.int r3), .val (.int (1 : Int32)), .val (.int r4), .val (.int (1 : Int32))] [(.int (1 : Int32))])) _
    exact retN X6 hx (t := .boolean) Bd.returns (by simp) (hb hby at_86) hr
  · show Q0_fffffff Z p1 h0 n0 _ T6.heap _
    exact ⟨rfl, N6⟩
set_option maxRecDepth 65536 in
set_option maxHeartbeats 40000000 in
theorem comes_1 {Post : Tables → Env → Array Value → State → Outcome → State → Prop} (hpost : ∀ tb e args s v u, (limb_1_1.after args s (.returned v) u = true ∧ limb_1_2.after args s (.returned v) u = true ∧ True) → FrameEnd s (.returned v) u (Jvm.fieldLocs frame_1_writes args s ++ Jvm.arrayLocs frame_1_arrays args s ++ Jvm.staticLocs frame_1_statics s) 0 0 → Post tb e args s (.returned v) u) :
    ArmFor flags0 classFile x code maxLocals ret World_1 tables_1 room_1 Calls_1 rest_1 Pre_1 Post := by
  intro l hfl _ _ p e ha hc hk s m args below hf hA hF happ hP
  obtain ⟨hcalls, hrest, hpre⟩ := hP
  obtain ⟨-, -, -, hnamed, -, -, -, hat⟩ := (Spec.applies_iff hf).mp happ
  obtain ⟨hg, hn⟩ := and_e (Cond.before_iff.mp (show (Jvm.Cond.and given_1 narrow_1).before args s = true from hpre))
  obtain ⟨g0, hg⟩ := and_e hg
  have g1 := hg
  obtain ⟨w0, rfl⟩ : ∃ w0 : Value, args = #[w0] := by
    have hs : args.size = 1 := by simpa [Cond.value, given_1] using g0
    obtain ⟨L⟩ := args
    match L, hs with
    | [w0], _ => exact ⟨w0, rfl⟩
  obtain ⟨i0, ei0⟩ := is_v g1
  obtain rfl : w0 = (.int i0) := Option.some.inj ei0
  have hw := fun d (hd : d ∈ tables_1) => atoms_spec (ws := Jvm.Cond.code x code maxLocals ret :: tables_1) hat d (List.mem_cons_of_mem _ hd)
  obtain ⟨c0, hn⟩ := and_e hn
  obtain ⟨c1, hn⟩ := and_e hn
  obtain ⟨c2, hn⟩ := and_e hn
  obtain ⟨c3, hn⟩ := and_e hn
  obtain ⟨c4, hn⟩ := and_e hn
  obtain ⟨c5, hn⟩ := and_e hn
  obtain ⟨c6, hn⟩ := and_e hn
  obtain ⟨c7, hn⟩ := and_e hn
  obtain ⟨c8, hn⟩ := and_e hn
  obtain ⟨c9, hn⟩ := and_e hn
  obtain ⟨c10, hn⟩ := and_e hn
  obtain ⟨c11, hn⟩ := and_e hn
  obtain ⟨c12, hn⟩ := and_e hn
  obtain ⟨c13, hn⟩ := and_e hn
  obtain ⟨c14, hn⟩ := and_e hn
  obtain ⟨c15, hn⟩ := and_e hn
  obtain ⟨c16, hn⟩ := and_e hn
  obtain ⟨c17, hn⟩ := and_e hn
  obtain ⟨c18, hn⟩ := and_e hn
  obtain ⟨c19, hn⟩ := and_e hn
  obtain ⟨c20, hn⟩ := and_e hn
  obtain ⟨c21, hn⟩ := and_e hn
  obtain ⟨c22, hn⟩ := and_e hn
  obtain ⟨c23, hn⟩ := and_e hn
  obtain ⟨c24, hn⟩ := and_e hn
  obtain ⟨c25, hn⟩ := and_e hn
  obtain ⟨c26, hn⟩ := and_e hn
  obtain ⟨c27, hn⟩ := and_e hn
  obtain ⟨c28, hn⟩ := and_e hn
  obtain ⟨c29, hn⟩ := and_e hn
  obtain ⟨c30, hn⟩ := and_e hn
  obtain ⟨c31, hn⟩ := and_e hn
  obtain ⟨c32, hn⟩ := and_e hn
  obtain ⟨c33, hn⟩ := and_e hn
  obtain ⟨c34, hn⟩ := and_e hn
  obtain ⟨c35, hn⟩ := and_e hn
  obtain ⟨c36, hn⟩ := and_e hn
  obtain ⟨c37, hn⟩ := and_e hn
  obtain ⟨c38, hn⟩ := and_e hn
  obtain ⟨c39, hn⟩ := and_e hn
  obtain ⟨c40, hn⟩ := and_e hn
  obtain ⟨c41, hn⟩ := and_e hn
  obtain ⟨c42, hn⟩ := and_e hn
  obtain ⟨c43, hn⟩ := and_e hn
  obtain ⟨c44, hn⟩ := and_e hn
  obtain ⟨c45, hn⟩ := and_e hn
  obtain ⟨c46, hn⟩ := and_e hn
  obtain ⟨c47, hn⟩ := and_e hn
  obtain ⟨c48, hn⟩ := and_e hn
  obtain ⟨c49, hn⟩ := and_e hn
  obtain ⟨c50, hn⟩ := and_e hn
  obtain ⟨c51, hn⟩ := and_e hn
  obtain ⟨c52, hn⟩ := and_e hn
  obtain ⟨c53, hn⟩ := and_e hn
  obtain ⟨c54, hn⟩ := and_e hn
  obtain ⟨c55, hn⟩ := and_e hn
  obtain ⟨c56, hn⟩ := and_e hn
  obtain ⟨c57, hn⟩ := and_e hn
  obtain ⟨c58, hn⟩ := and_e hn
  obtain ⟨c59, hn⟩ := and_e hn
  obtain ⟨c60, hn⟩ := and_e hn
  obtain ⟨c61, hn⟩ := and_e hn
  obtain ⟨c62, hn⟩ := and_e hn
  obtain ⟨c63, hn⟩ := and_e hn
  obtain ⟨c64, hn⟩ := and_e hn
  obtain ⟨c65, hn⟩ := and_e hn
  obtain ⟨c66, hn⟩ := and_e hn
  obtain ⟨c67, hn⟩ := and_e hn
  obtain ⟨c68, hn⟩ := and_e hn
  obtain ⟨c69, hn⟩ := and_e hn
  obtain ⟨c70, hn⟩ := and_e hn
  obtain ⟨c71, hn⟩ := and_e hn
  obtain ⟨c72, hn⟩ := and_e hn
  obtain ⟨c73, hn⟩ := and_e hn
  obtain ⟨c74, hn⟩ := and_e hn
  have c75 := hn
  obtain ⟨w_MKDIR, ev_MKDIR⟩ := exa_v c0
  have E_MKDIR := Exa.start ev_MKDIR c0
  have S_MKDIR := Sta.start ev_MKDIR (Or.inr ⟨(hw _ (List.mem_of_getElem? (i := 6) rfl)), (hw _ (List.mem_of_getElem? (i := 7) rfl))⟩)
  obtain ⟨w_CHANGES, ev_CHANGES⟩ := exa_v c2
  have E_CHANGES := Exa.start ev_CHANGES c2
  have S_CHANGES := Sta.start ev_CHANGES (Or.inr ⟨(hw _ (List.mem_of_getElem? (i := 28) rfl)), (hw _ (List.mem_of_getElem? (i := 29) rfl))⟩)
  obtain ⟨w_RMDIR, ev_RMDIR⟩ := exa_v c5
  have E_RMDIR := Exa.start ev_RMDIR c5
  have S_RMDIR := Sta.start ev_RMDIR (Or.inr ⟨(hw _ (List.mem_of_getElem? (i := 6) rfl)), (hw _ (List.mem_of_getElem? (i := 39) rfl))⟩)
  obtain ⟨w_CREATE, ev_CREATE⟩ := exa_v c8
  have E_CREATE := Exa.start ev_CREATE c8
  have S_CREATE := Sta.start ev_CREATE (Or.inr ⟨(hw _ (List.mem_of_getElem? (i := 6) rfl)), (hw _ (List.mem_of_getElem? (i := 41) rfl))⟩)
  obtain ⟨w_UNLINK, ev_UNLINK⟩ := exa_v c10
  have E_UNLINK := Exa.start ev_UNLINK c10
  have S_UNLINK := Sta.start ev_UNLINK (Or.inr ⟨(hw _ (List.mem_of_getElem? (i := 6) rfl)), (hw _ (List.mem_of_getElem? (i := 43) rfl))⟩)
  obtain ⟨w_OPEN, ev_OPEN⟩ := exa_v c15
  have E_OPEN := Exa.start ev_OPEN c15
  have S_OPEN := Sta.start ev_OPEN (Or.inr ⟨(hw _ (List.mem_of_getElem? (i := 6) rfl)), (hw _ (List.mem_of_getElem? (i := 46) rfl))⟩)
  obtain ⟨w_RENAME, ev_RENAME⟩ := exa_v c17
  have E_RENAME := Exa.start ev_RENAME c17
  have S_RENAME := Sta.start ev_RENAME (Or.inr ⟨(hw _ (List.mem_of_getElem? (i := 6) rfl)), (hw _ (List.mem_of_getElem? (i := 48) rfl))⟩)
  obtain ⟨w_NONE, ev_NONE⟩ := exa_v c20
  have E_NONE := Exa.start ev_NONE c20
  have S_NONE := Sta.start ev_NONE (Or.inr ⟨(hw _ (List.mem_of_getElem? (i := 28) rfl)), (hw _ (List.mem_of_getElem? (i := 49) rfl))⟩)
  obtain ⟨w_CLOSE, ev_CLOSE⟩ := exa_v c24
  have E_CLOSE := Exa.start ev_CLOSE c24
  have S_CLOSE := Sta.start ev_CLOSE (Or.inr ⟨(hw _ (List.mem_of_getElem? (i := 6) rfl)), (hw _ (List.mem_of_getElem? (i := 51) rfl))⟩)
  obtain ⟨w_IMPORT, ev_IMPORT⟩ := exa_v c31
  have E_IMPORT := Exa.start ev_IMPORT c31
  have S_IMPORT := Sta.start ev_IMPORT (Or.inr ⟨(hw _ (List.mem_of_getElem? (i := 6) rfl)), (hw _ (List.mem_of_getElem? (i := 54) rfl))⟩)
  obtain ⟨w_BATCH, ev_BATCH⟩ := exa_v c39
  have E_BATCH := Exa.start ev_BATCH c39
  have S_BATCH := Sta.start ev_BATCH (Or.inr ⟨(hw _ (List.mem_of_getElem? (i := 6) rfl)), (hw _ (List.mem_of_getElem? (i := 57) rfl))⟩)
  obtain ⟨w_RELEASE, ev_RELEASE⟩ := exa_v c44
  have E_RELEASE := Exa.start ev_RELEASE c44
  have S_RELEASE := Sta.start ev_RELEASE (Or.inr ⟨(hw _ (List.mem_of_getElem? (i := 6) rfl)), (hw _ (List.mem_of_getElem? (i := 59) rfl))⟩)
  obtain ⟨w_STATS, ev_STATS⟩ := exa_v c48
  have E_STATS := Exa.start ev_STATS c48
  have S_STATS := Sta.start ev_STATS (Or.inr ⟨(hw _ (List.mem_of_getElem? (i := 6) rfl)), (hw _ (List.mem_of_getElem? (i := 61) rfl))⟩)
  obtain ⟨w_RENEW, ev_RENEW⟩ := exa_v c55
  have E_RENEW := Exa.start ev_RENEW c55
  have S_RENEW := Sta.start ev_RENEW (Or.inr ⟨(hw _ (List.mem_of_getElem? (i := 6) rfl)), (hw _ (List.mem_of_getElem? (i := 64) rfl))⟩)
  obtain ⟨w_LIST, ev_LIST⟩ := exa_v c59
  have E_LIST := Exa.start ev_LIST c59
  have S_LIST := Sta.start ev_LIST (Or.inr ⟨(hw _ (List.mem_of_getElem? (i := 6) rfl)), (hw _ (List.mem_of_getElem? (i := 66) rfl))⟩)
  obtain ⟨w_READS, ev_READS⟩ := exa_v c62
  have E_READS := Exa.start ev_READS c62
  have S_READS := Sta.start ev_READS (Or.inr ⟨(hw _ (List.mem_of_getElem? (i := 28) rfl)), (hw _ (List.mem_of_getElem? (i := 67) rfl))⟩)
  obtain ⟨w_STAT, ev_STAT⟩ := exa_v c65
  have E_STAT := Exa.start ev_STAT c65
  have S_STAT := Sta.start ev_STAT (Or.inr ⟨(hw _ (List.mem_of_getElem? (i := 6) rfl)), (hw _ (List.mem_of_getElem? (i := 69) rfl))⟩)
  have F_MKDIR_arity := own_fldI ev_MKDIR c1
  have F_MKDIR_effect := own_fldR ev_MKDIR ev_CHANGES c3
  have F_MKDIR_variadic := own_fldI ev_MKDIR c4
  have F_RMDIR_ordinal := own_fldI ev_RMDIR c6
  have F_MKDIR_ordinal := own_fldI ev_MKDIR c7
  have F_CREATE_ordinal := own_fldI ev_CREATE c9
  have F_UNLINK_ordinal := own_fldI ev_UNLINK c11
  have F_RMDIR_arity := own_fldI ev_RMDIR c12
  have F_RMDIR_effect := own_fldR ev_RMDIR ev_CHANGES c13
  have F_RMDIR_variadic := own_fldI ev_RMDIR c14
  have F_OPEN_ordinal := own_fldI ev_OPEN c16
  have F_RENAME_ordinal := own_fldI ev_RENAME c18
  have F_OPEN_arity := own_fldI ev_OPEN c19
  have F_OPEN_effect := own_fldR ev_OPEN ev_NONE c21
  have F_NONE_ordinal := own_fldI ev_NONE c22
  have F_CHANGES_ordinal := own_fldI ev_CHANGES c23
  have F_CLOSE_ordinal := own_fldI ev_CLOSE c25
  have F_CLOSE_arity := own_fldI ev_CLOSE c26
  have F_CLOSE_effect := own_fldR ev_CLOSE ev_NONE c27
  have F_RENAME_arity := own_fldI ev_RENAME c28
  have F_RENAME_effect := own_fldR ev_RENAME ev_CHANGES c29
  have F_RENAME_variadic := own_fldI ev_RENAME c30
  have F_IMPORT_ordinal := own_fldI ev_IMPORT c32
  have F_IMPORT_arity := own_fldI ev_IMPORT c33
  have F_IMPORT_effect := own_fldR ev_IMPORT ev_CHANGES c34
  have F_IMPORT_variadic := own_fldI ev_IMPORT c35
  have F_UNLINK_arity := own_fldI ev_UNLINK c36
  have F_UNLINK_effect := own_fldR ev_UNLINK ev_CHANGES c37
  have F_UNLINK_variadic := own_fldI ev_UNLINK c38
  have F_BATCH_ordinal := own_fldI ev_BATCH c40
  have F_BATCH_arity := own_fldI ev_BATCH c41
  have F_BATCH_effect := own_fldR ev_BATCH ev_CHANGES c42
  have F_BATCH_variadic := own_fldI ev_BATCH c43
  have F_RELEASE_ordinal := own_fldI ev_RELEASE c45
  have F_RELEASE_arity := own_fldI ev_RELEASE c46
  have F_RELEASE_effect := own_fldR ev_RELEASE ev_NONE c47
  have F_STATS_ordinal := own_fldI ev_STATS c49
  have F_STATS_arity := own_fldI ev_STATS c50
  have F_STATS_effect := own_fldR ev_STATS ev_NONE c51
  have F_CREATE_arity := own_fldI ev_CREATE c52
  have F_CREATE_effect := own_fldR ev_CREATE ev_CHANGES c53
  have F_CREATE_variadic := own_fldI ev_CREATE c54
  have F_RENEW_ordinal := own_fldI ev_RENEW c56
  have F_RENEW_arity := own_fldI ev_RENEW c57
  have F_RENEW_effect := own_fldR ev_RENEW ev_NONE c58
  have F_LIST_ordinal := own_fldI ev_LIST c60
  have F_LIST_arity := own_fldI ev_LIST c61
  have F_LIST_effect := own_fldR ev_LIST ev_READS c63
  have F_READS_ordinal := own_fldI ev_READS c64
  have F_STAT_ordinal := own_fldI ev_STAT c66
  have F_STAT_arity := own_fldI ev_STAT c67
  have F_STAT_effect := own_fldR ev_STAT ev_READS c68
  have F_OPEN_variadic := own_fldI ev_OPEN c69
  have F_CLOSE_variadic := own_fldI ev_CLOSE c70
  have F_RELEASE_variadic := own_fldI ev_RELEASE c71
  have F_STATS_variadic := own_fldI ev_STATS c72
  have F_RENEW_variadic := own_fldI ev_RENEW c73
  have F_LIST_variadic := own_fldI ev_LIST c74
  have F_STAT_variadic := own_fldI ev_STAT c75
  have key : MetFree l x (head1 (Jvm.Cond.code x code maxLocals ret :: tables_1) room_1) (fun a U => a = #[(.int i0)] ∧ s.Warmed39 U.vm ∧ U.heap = s.heap) (fun _ _ _ _ _ => True) (fun _ U o U' => ∃ v L, o = .returned v ∧ (v = some (.int (1 : Int32)) ∧ Fr s.heap.size L) ∧ FrameEnd U o U' L room_1.cells room_1.slots) := by
    rcases own_k i0 with hv | hv | hv | hv | hv | hv | hv | hv | hv | hv | hv | hv | hv | hv
    · exact rm0_fffffff l s _ hw tables_1 i0 w_MKDIR (1 : Int32) (1 : Int32) (1 : Int32) (0 : Int32) s.heap s.heap.size (Nat.le_refl _) (by rw [hv] <;> decide) (by rw [hv]; exact (Or.inl ⟨w_MKDIR, S_MKDIR, (by decide), rfl⟩)) E_MKDIR (Or.inl ⟨w_MKDIR, S_MKDIR, rfl, rfl⟩) ⟨(1 : Int32), F_MKDIR_arity, rfl⟩ (Or.inl ⟨w_CHANGES, w_CHANGES, F_MKDIR_effect, S_CHANGES, rfl, rfl⟩) ⟨(0 : Int32), F_MKDIR_variadic, (by decide), rfl⟩ (by decide) (by decide) (by decide) (by decide) (by decide) (by decide)
    · exact rm0_fffffff l s _ hw tables_1 i0 w_CREATE (1 : Int32) (1 : Int32) (1 : Int32) (0 : Int32) s.heap s.heap.size (Nat.le_refl _) (by rw [hv] <;> decide) (by rw [hv]; exact (Or.inr (Or.inl ⟨w_CREATE, S_CREATE, (by decide), (by decide), rfl⟩))) E_CREATE (Or.inr (Or.inl ⟨w_MKDIR, w_CREATE, S_MKDIR, S_CREATE, (Fld.ne F_CREATE_ordinal F_MKDIR_ordinal (by decide)), rfl, rfl⟩)) ⟨(1 : Int32), F_CREATE_arity, rfl⟩ (Or.inl ⟨w_CHANGES, w_CHANGES, F_CREATE_effect, S_CHANGES, rfl, rfl⟩) ⟨(0 : Int32), F_CREATE_variadic, (by decide), rfl⟩ (by decide) (by decide) (by decide) (by decide) (by decide) (by decide)
    · exact rm0_fffffff l s _ hw tables_1 i0 w_UNLINK (1 : Int32) (1 : Int32) (1 : Int32) (0 : Int32) s.heap s.heap.size (Nat.le_refl _) (by rw [hv] <;> decide) (by rw [hv]; exact (Or.inr (Or.inr (Or.inl ⟨w_UNLINK, S_UNLINK, (by decide), (by decide), (by decide), rfl⟩)))) E_UNLINK (Or.inr (Or.inr (Or.inl ⟨w_MKDIR, w_CREATE, w_UNLINK, S_MKDIR, S_CREATE, S_UNLINK, (Fld.ne F_UNLINK_ordinal F_MKDIR_ordinal (by decide)), (Fld.ne F_UNLINK_ordinal F_CREATE_ordinal (by decide)), rfl, rfl⟩))) ⟨(1 : Int32), F_UNLINK_arity, rfl⟩ (Or.inl ⟨w_CHANGES, w_CHANGES, F_UNLINK_effect, S_CHANGES, rfl, rfl⟩) ⟨(0 : Int32), F_UNLINK_variadic, (by decide), rfl⟩ (by decide) (by decide) (by decide) (by decide) (by decide) (by decide)
    · exact rm0_fffffff l s _ hw tables_1 i0 w_RMDIR (1 : Int32) (1 : Int32) (1 : Int32) (0 : Int32) s.heap s.heap.size (Nat.le_refl _) (by rw [hv] <;> decide) (by rw [hv]; exact (Or.inr (Or.inr (Or.inr (Or.inl ⟨w_RMDIR, S_RMDIR, (by decide), (by decide), (by decide), (by decide), rfl⟩))))) E_RMDIR (Or.inr (Or.inr (Or.inr (Or.inl ⟨w_MKDIR, w_CREATE, w_UNLINK, w_RMDIR, S_MKDIR, S_CREATE, S_UNLINK, S_RMDIR, (Fld.ne F_RMDIR_ordinal F_MKDIR_ordinal (by decide)), (Fld.ne F_RMDIR_ordinal F_CREATE_ordinal (by decide)), (Fld.ne F_RMDIR_ordinal F_UNLINK_ordinal (by decide)), rfl, rfl⟩)))) ⟨(1 : Int32), F_RMDIR_arity, rfl⟩ (Or.inl ⟨w_CHANGES, w_CHANGES, F_RMDIR_effect, S_CHANGES, rfl, rfl⟩) ⟨(0 : Int32), F_RMDIR_variadic, (by decide), rfl⟩ (by decide) (by decide) (by decide) (by decide) (by decide) (by decide)
    · exact rm0_fffffff l s _ hw tables_1 i0 w_RENAME (1 : Int32) (2 : Int32) (1 : Int32) (0 : Int32) s.heap s.heap.size (Nat.le_refl _) (by rw [hv] <;> decide) (by rw [hv]; exact (Or.inr (Or.inr (Or.inr (Or.inr (Or.inl ⟨w_RENAME, S_RENAME, (by decide), (by decide), (by decide), (by decide), (by decide), rfl⟩)))))) E_RENAME (Or.inr (Or.inr (Or.inr (Or.inr (Or.inl ⟨w_MKDIR, w_CREATE, w_UNLINK, w_RMDIR, w_RENAME, S_MKDIR, S_CREATE, S_UNLINK, S_RMDIR, S_RENAME, (Fld.ne F_RENAME_arity F_MKDIR_arity (by decide)), (Fld.ne F_RENAME_arity F_CREATE_arity (by decide)), (Fld.ne F_RENAME_arity F_UNLINK_arity (by decide)), (Fld.ne F_RENAME_arity F_RMDIR_arity (by decide)), rfl, rfl⟩))))) ⟨(2 : Int32), F_RENAME_arity, rfl⟩ (Or.inl ⟨w_CHANGES, w_CHANGES, F_RENAME_effect, S_CHANGES, rfl, rfl⟩) ⟨(0 : Int32), F_RENAME_variadic, (by decide), rfl⟩ (by decide) (by decide) (by decide) (by decide) (by decide) (by decide)
    · exact rm0_ttff l s _ hw tables_1 i0 w_LIST (0 : Int32) (1 : Int32) (0 : Int32) s.heap s.heap.size (Nat.le_refl _) (by rw [hv] <;> decide) (by rw [hv]; exact (Or.inr (Or.inr (Or.inr (Or.inr (Or.inr (Or.inl ⟨w_LIST, S_LIST, (by decide), (by decide), (by decide), (by decide), (by decide), (by decide), rfl⟩))))))) E_LIST (Or.inr (Or.inr (Or.inr (Or.inr (Or.inr ⟨w_MKDIR, w_CREATE, w_UNLINK, w_RMDIR, w_RENAME, S_MKDIR, S_CREATE, S_UNLINK, S_RMDIR, S_RENAME, (Fld.ne F_LIST_ordinal F_MKDIR_ordinal (by decide)), (Fld.ne F_LIST_ordinal F_CREATE_ordinal (by decide)), (Fld.ne F_LIST_ordinal F_UNLINK_ordinal (by decide)), (Fld.ne F_LIST_ordinal F_RMDIR_ordinal (by decide)), (Fld.ne F_LIST_arity F_RENAME_arity (by decide)), rfl⟩))))) ⟨(1 : Int32), F_LIST_arity, rfl⟩ (Or.inr ⟨w_READS, w_CHANGES, F_LIST_effect, S_CHANGES, (Fld.ne F_READS_ordinal F_CHANGES_ordinal (by decide)), rfl⟩) (by decide) (by decide) (by decide)
    · exact rm0_ttff l s _ hw tables_1 i0 w_STAT (0 : Int32) (1 : Int32) (0 : Int32) s.heap s.heap.size (Nat.le_refl _) (by rw [hv] <;> decide) (by rw [hv]; exact (Or.inr (Or.inr (Or.inr (Or.inr (Or.inr (Or.inr (Or.inl ⟨w_STAT, S_STAT, (by decide), (by decide), (by decide), (by decide), (by decide), (by decide), (by decide), rfl⟩)))))))) E_STAT (Or.inr (Or.inr (Or.inr (Or.inr (Or.inr ⟨w_MKDIR, w_CREATE, w_UNLINK, w_RMDIR, w_RENAME, S_MKDIR, S_CREATE, S_UNLINK, S_RMDIR, S_RENAME, (Fld.ne F_STAT_ordinal F_MKDIR_ordinal (by decide)), (Fld.ne F_STAT_ordinal F_CREATE_ordinal (by decide)), (Fld.ne F_STAT_ordinal F_UNLINK_ordinal (by decide)), (Fld.ne F_STAT_ordinal F_RMDIR_ordinal (by decide)), (Fld.ne F_STAT_arity F_RENAME_arity (by decide)), rfl⟩))))) ⟨(1 : Int32), F_STAT_arity, rfl⟩ (Or.inr ⟨w_READS, w_CHANGES, F_STAT_effect, S_CHANGES, (Fld.ne F_READS_ordinal F_CHANGES_ordinal (by decide)), rfl⟩) (by decide) (by decide) (by decide)
    · exact rm0_tftff l s _ hw tables_1 i0 w_IMPORT (0 : Int32) (1 : Int32) (1 : Int32) (1 : Int32) s.heap s.heap.size (Nat.le_refl _) (by rw [hv] <;> decide) (by rw [hv]; exact (Or.inr (Or.inr (Or.inr (Or.inr (Or.inr (Or.inr (Or.inr (Or.inl ⟨w_IMPORT, S_IMPORT, (by decide), (by decide), (by decide), (by decide), (by decide), (by decide), (by decide), (by decide), rfl⟩))))))))) E_IMPORT (Or.inr (Or.inr (Or.inr (Or.inr (Or.inr ⟨w_MKDIR, w_CREATE, w_UNLINK, w_RMDIR, w_RENAME, S_MKDIR, S_CREATE, S_UNLINK, S_RMDIR, S_RENAME, (Fld.ne F_IMPORT_ordinal F_MKDIR_ordinal (by decide)), (Fld.ne F_IMPORT_ordinal F_CREATE_ordinal (by decide)), (Fld.ne F_IMPORT_ordinal F_UNLINK_ordinal (by decide)), (Fld.ne F_IMPORT_ordinal F_RMDIR_ordinal (by decide)), (Fld.ne F_IMPORT_arity F_RENAME_arity (by decide)), rfl⟩))))) ⟨(1 : Int32), F_IMPORT_arity, rfl⟩ (Or.inl ⟨w_CHANGES, w_CHANGES, F_IMPORT_effect, S_CHANGES, rfl, rfl⟩) ⟨(1 : Int32), F_IMPORT_variadic, (by decide), rfl⟩ (by decide) (by decide) (by decide) (by decide)
    · exact rm0_ttff l s _ hw tables_1 i0 w_STATS (0 : Int32) (0 : Int32) (0 : Int32) s.heap s.heap.size (Nat.le_refl _) (by rw [hv] <;> decide) (by rw [hv]; exact (Or.inr (Or.inr (Or.inr (Or.inr (Or.inr (Or.inr (Or.inr (Or.inr (Or.inl ⟨w_STATS, S_STATS, (by decide), (by decide), (by decide), (by decide), (by decide), (by decide), (by decide), (by decide), (by decide), rfl⟩)))))))))) E_STATS (Or.inr (Or.inr (Or.inr (Or.inr (Or.inr ⟨w_MKDIR, w_CREATE, w_UNLINK, w_RMDIR, w_RENAME, S_MKDIR, S_CREATE, S_UNLINK, S_RMDIR, S_RENAME, (Fld.ne F_STATS_arity F_MKDIR_arity (by decide)), (Fld.ne F_STATS_arity F_CREATE_arity (by decide)), (Fld.ne F_STATS_arity F_UNLINK_arity (by decide)), (Fld.ne F_STATS_arity F_RMDIR_arity (by decide)), (Fld.ne F_STATS_arity F_RENAME_arity (by decide)), rfl⟩))))) ⟨(0 : Int32), F_STATS_arity, rfl⟩ (Or.inr ⟨w_NONE, w_CHANGES, F_STATS_effect, S_CHANGES, (Fld.ne F_NONE_ordinal F_CHANGES_ordinal (by decide)), rfl⟩) (by decide) (by decide) (by decide)
    · exact rm0_ttff l s _ hw tables_1 i0 w_RENEW (0 : Int32) (0 : Int32) (0 : Int32) s.heap s.heap.size (Nat.le_refl _) (by rw [hv] <;> decide) (by rw [hv]; exact (Or.inr (Or.inr (Or.inr (Or.inr (Or.inr (Or.inr (Or.inr (Or.inr (Or.inr (Or.inl ⟨w_RENEW, S_RENEW, (by decide), (by decide), (by decide), (by decide), (by decide), (by decide), (by decide), (by decide), (by decide), (by decide), rfl⟩))))))))))) E_RENEW (Or.inr (Or.inr (Or.inr (Or.inr (Or.inr ⟨w_MKDIR, w_CREATE, w_UNLINK, w_RMDIR, w_RENAME, S_MKDIR, S_CREATE, S_UNLINK, S_RMDIR, S_RENAME, (Fld.ne F_RENEW_arity F_MKDIR_arity (by decide)), (Fld.ne F_RENEW_arity F_CREATE_arity (by decide)), (Fld.ne F_RENEW_arity F_UNLINK_arity (by decide)), (Fld.ne F_RENEW_arity F_RMDIR_arity (by decide)), (Fld.ne F_RENEW_arity F_RENAME_arity (by decide)), rfl⟩))))) ⟨(0 : Int32), F_RENEW_arity, rfl⟩ (Or.inr ⟨w_NONE, w_CHANGES, F_RENEW_effect, S_CHANGES, (Fld.ne F_NONE_ordinal F_CHANGES_ordinal (by decide)), rfl⟩) (by decide) (by decide) (by decide)
    · exact rm0_ttff l s _ hw tables_1 i0 w_RELEASE (0 : Int32) (0 : Int32) (0 : Int32) s.heap s.heap.size (Nat.le_refl _) (by rw [hv] <;> decide) (by rw [hv]; exact (Or.inr (Or.inr (Or.inr (Or.inr (Or.inr (Or.inr (Or.inr (Or.inr (Or.inr (Or.inr (Or.inl ⟨w_RELEASE, S_RELEASE, (by decide), (by decide), (by decide), (by decide), (by decide), (by decide), (by decide), (by decide), (by decide), (by decide), (by decide), rfl⟩)))))))))))) E_RELEASE (Or.inr (Or.inr (Or.inr (Or.inr (Or.inr ⟨w_MKDIR, w_CREATE, w_UNLINK, w_RMDIR, w_RENAME, S_MKDIR, S_CREATE, S_UNLINK, S_RMDIR, S_RENAME, (Fld.ne F_RELEASE_arity F_MKDIR_arity (by decide)), (Fld.ne F_RELEASE_arity F_CREATE_arity (by decide)), (Fld.ne F_RELEASE_arity F_UNLINK_arity (by decide)), (Fld.ne F_RELEASE_arity F_RMDIR_arity (by decide)), (Fld.ne F_RELEASE_arity F_RENAME_arity (by decide)), rfl⟩))))) ⟨(0 : Int32), F_RELEASE_arity, rfl⟩ (Or.inr ⟨w_NONE, w_CHANGES, F_RELEASE_effect, S_CHANGES, (Fld.ne F_NONE_ordinal F_CHANGES_ordinal (by decide)), rfl⟩) (by decide) (by decide) (by decide)
    · exact rm0_tfftff l s _ hw tables_1 i0 w_BATCH (0 : Int32) (0 : Int32) (1 : Int32) (0 : Int32) s.heap s.heap.size (Nat.le_refl _) (by rw [hv] <;> decide) (by rw [hv]; exact (Or.inr (Or.inr (Or.inr (Or.inr (Or.inr (Or.inr (Or.inr (Or.inr (Or.inr (Or.inr (Or.inr (Or.inl ⟨w_BATCH, S_BATCH, (by decide), (by decide), (by decide), (by decide), (by decide), (by decide), (by decide), (by decide), (by decide), (by decide), (by decide), (by decide), rfl⟩))))))))))))) E_BATCH (Or.inr (Or.inr (Or.inr (Or.inr (Or.inr ⟨w_MKDIR, w_CREATE, w_UNLINK, w_RMDIR, w_RENAME, S_MKDIR, S_CREATE, S_UNLINK, S_RMDIR, S_RENAME, (Fld.ne F_BATCH_arity F_MKDIR_arity (by decide)), (Fld.ne F_BATCH_arity F_CREATE_arity (by decide)), (Fld.ne F_BATCH_arity F_UNLINK_arity (by decide)), (Fld.ne F_BATCH_arity F_RMDIR_arity (by decide)), (Fld.ne F_BATCH_arity F_RENAME_arity (by decide)), rfl⟩))))) ⟨(0 : Int32), F_BATCH_arity, rfl⟩ (Or.inl ⟨w_CHANGES, w_CHANGES, F_BATCH_effect, S_CHANGES, rfl, rfl⟩) ⟨(0 : Int32), F_BATCH_variadic, (by decide), rfl⟩ (by decide) (by decide) (by decide) (by decide) (by decide)
    · exact rm0_ttff l s _ hw tables_1 i0 w_OPEN (0 : Int32) (1 : Int32) (0 : Int32) s.heap s.heap.size (Nat.le_refl _) (by rw [hv] <;> decide) (by rw [hv]; exact (Or.inr (Or.inr (Or.inr (Or.inr (Or.inr (Or.inr (Or.inr (Or.inr (Or.inr (Or.inr (Or.inr (Or.inr (Or.inl ⟨w_OPEN, S_OPEN, (by decide), (by decide), (by decide), (by decide), (by decide), (by decide), (by decide), (by decide), (by decide), (by decide), (by decide), (by decide), (by decide), rfl⟩)))))))))))))) E_OPEN (Or.inr (Or.inr (Or.inr (Or.inr (Or.inr ⟨w_MKDIR, w_CREATE, w_UNLINK, w_RMDIR, w_RENAME, S_MKDIR, S_CREATE, S_UNLINK, S_RMDIR, S_RENAME, (Fld.ne F_OPEN_ordinal F_MKDIR_ordinal (by decide)), (Fld.ne F_OPEN_ordinal F_CREATE_ordinal (by decide)), (Fld.ne F_OPEN_ordinal F_UNLINK_ordinal (by decide)), (Fld.ne F_OPEN_ordinal F_RMDIR_ordinal (by decide)), (Fld.ne F_OPEN_arity F_RENAME_arity (by decide)), rfl⟩))))) ⟨(1 : Int32), F_OPEN_arity, rfl⟩ (Or.inr ⟨w_NONE, w_CHANGES, F_OPEN_effect, S_CHANGES, (Fld.ne F_NONE_ordinal F_CHANGES_ordinal (by decide)), rfl⟩) (by decide) (by decide) (by decide)
    · exact rm0_ttff l s _ hw tables_1 i0 w_CLOSE (0 : Int32) (0 : Int32) (0 : Int32) s.heap s.heap.size (Nat.le_refl _) (by rw [hv] <;> decide) (by rw [hv]; exact (Or.inr (Or.inr (Or.inr (Or.inr (Or.inr (Or.inr (Or.inr (Or.inr (Or.inr (Or.inr (Or.inr (Or.inr (Or.inr ⟨w_CLOSE, S_CLOSE, (by decide), (by decide), (by decide), (by decide), (by decide), (by decide), (by decide), (by decide), (by decide), (by decide), (by decide), (by decide), (by decide), rfl⟩)))))))))))))) E_CLOSE (Or.inr (Or.inr (Or.inr (Or.inr (Or.inr ⟨w_MKDIR, w_CREATE, w_UNLINK, w_RMDIR, w_RENAME, S_MKDIR, S_CREATE, S_UNLINK, S_RMDIR, S_RENAME, (Fld.ne F_CLOSE_arity F_MKDIR_arity (by decide)), (Fld.ne F_CLOSE_arity F_CREATE_arity (by decide)), (Fld.ne F_CLOSE_arity F_UNLINK_arity (by decide)), (Fld.ne F_CLOSE_arity F_RMDIR_arity (by decide)), (Fld.ne F_CLOSE_arity F_RENAME_arity (by decide)), rfl⟩))))) ⟨(0 : Int32), F_CLOSE_arity, rfl⟩ (Or.inr ⟨w_NONE, w_CHANGES, F_CLOSE_effect, S_CHANGES, (Fld.ne F_NONE_ordinal F_CHANGES_ordinal (by decide)), rfl⟩) (by decide) (by decide) (by decide)
  obtain ⟨n, o, h1, h2, h3, _, L, rfl, ⟨rfl, N⟩, hq⟩ := key p e ha hc hk s m _ below hf ((Spec.applies_iff_loose hf).mp happ).1 ⟨rfl, State.Warmed39.refl s, rfl⟩ trivial
  refine ⟨n, _, h1, h2, h3, hpost _ _ _ _ _ _ ⟨Cond.after_iff.mpr rfl, Cond.after_iff.mpr (eq_i res_at (Term.int_eval (1)) rfl), trivial⟩ ⟨hq.1, hq.2.1, (hq.2.2.sift fun y hy => Or.inr (N y hy)).mono (by decide) (by decide)⟩⟩
theorem main_1_1 : Claimed_1_1 := comes_1 fun _ _ _ _ _ _ h hF => ⟨h.1, hF⟩
theorem main_1_2 : Claimed_1_2 := comes_1 fun _ _ _ _ _ _ h hF => ⟨h.2.1, hF⟩
end Jvm.Pilot.@@N@@
namespace Jvm.Pilot.@@N@@
open Jvm Jvm.ClassFile Sem Op Lib Jvm.Free Jvm.Stand Jvm.Pilot.@@N@@.Jvm.D
/-! MADE BY PROGRAM (witnessworld.py) out of the Statement's table words and the real class files: 13 classes; the members and pool entries that the words name. The judged class is class 1, her method 2. -/
namespace start1
open Jvm.ClassFile
def u (s : String) : CpInfo := .utf8 (stringToUtf16 s)
/-- a pool by its gaps: so many unusable entries, then the entry; so many at the end -/
def gap : Nat → List CpInfo → List CpInfo
  | 0, r => r
  | n + 1, r => .unusable :: gap n r
def poolList (es : List (Nat × CpInfo)) (last : Nat) : List CpInfo := es.foldr (fun e r => gap e.1 (e.2 :: r)) (gap last [])
def pool (es : List (Nat × CpInfo)) (last : Nat) : Array CpInfo := ⟨poolList es last⟩
def fileOf (pool : Array CpInfo) (this : Nat) (attrs : Array Attribute := #[]) (ms : Array MethodInfo := #[]) (fl : Nat := 33) (sup : Nat := 0) (ifs : Array Nat := #[]) (fds : Array FieldInfo := #[]) : ClassFile where
  minorVersion := 0
  majorVersion := 65
  constantPool := pool
  accessFlags := fl
  thisClass := this
  superClass := sup
  interfaces := ifs
  fields := fds
  methods := ms
  attributes := attrs
def plain (name : String) (sup : Option ClassId) : Class where
  name := name
  kind := .ordinary
  loader := none
  accessFlags := 33
  super := sup
  interfaces := #[]
  cf := none
  fields := #[]
  methods := #[]
  instanceTypes := #[]
  staticTypes := #[]
  resolved := #[]
  callSites := []
  init := .initialized
  statics := none
  mirror := none

def pool0 : Array CpInfo := pool [(5, u "<init>"), (0, u "()V"), (1, .class_ 10), (1, u "java/lang/Object")] 113

def k0m0 : Method := { name := "<init>", desc := "()V", sig := { parameters := [], returnType := none }, accessFlags := 1, code := none }
/-- java/lang/Object -/
def k0 : Class := { plain "java/lang/Object" none with
  accessFlags := 33
  interfaces := #[]
  cf := some (fileOf pool0 8 #[] #[{ accessFlags := 1, nameIndex := 5, descriptorIndex := 6, attributes := #[] }] 33 0 #[] #[])
  fields := #[]
  methods := #[k0m0]
  instanceTypes := #[]
  staticTypes := #[]
  resolved := Array.replicate 124 none
  statics := none }

def pool1 : Array CpInfo := pool [(2, .class_ 4), (1, u "java/lang/Object"), (0, u "<init>"), (0, u "()V"), (0, .fieldref 8 9), (0, .class_ 10), (0, .nameAndType 11 12), (0, u "com/example/lessor/lessor/protocol/Operation"), (0, u "MKDIR"), (0, u "Lcom/example/lessor/lessor/protocol/Operation;"), (0, .fieldref 8 14), (0, .nameAndType 15 12), (0, u "CREATE"), (0, .fieldref 8 17), (0, .nameAndType 18 12), (0, u "UNLINK"), (0, .fieldref 8 20), (0, .nameAndType 21 12), (0, u "RMDIR"), (0, .fieldref 8 23), (0, .nameAndType 24 12), (0, u "RENAME"), (0, .fieldref 8 26), (0, .nameAndType 27 12), (0, u "LIST"), (0, .fieldref 8 29), (0, .nameAndType 30 12), (0, u "STAT"), (0, .fieldref 8 32), (0, .nameAndType 33 12), (0, u "IMPORT"), (0, .fieldref 8 35), (0, .nameAndType 36 12), (0, u "STATS"), (0, .fieldref 8 38), (0, .nameAndType 39 12), (0, u "RENEW"), (0, .fieldref 8 41), (0, .nameAndType 42 12), (0, u "RELEASE"), (0, .fieldref 8 44), (0, .nameAndType 45 12), (0, u "BATCH"), (0, .fieldref 8 47), (0, .nameAndType 48 12), (0, u "OPEN"), (0, .fieldref 8 50), (0, .nameAndType 51 12), (0, u "CLOSE"), (0, .integer 2147483647), (0, .methodref 54 55), (0, .class_ 56), (0, .nameAndType 57 58), (0, u "com/example/lessor/lessor/protocol/OperationIsBatchedPinLaw"), (0, u "pick"), (0, u "(I)Lcom/example/lessor/lessor/protocol/Operation;"), (0, .methodref 8 60), (0, .nameAndType 61 62), (0, u "isBatched"), (0, u "()Z"), (0, .methodref 8 64), (0, .nameAndType 65 66), (0, u "arity"), (0, u "()I"), (0, .methodref 8 68), (0, .nameAndType 69 62), (0, u "changes"), (0, .methodref 8 71), (0, .nameAndType 72 62), (0, u "isVariadic"), (3, u "law"), (0, u "(I)Z")] 2

def k1m0 : Method := { name := "<init>", desc := "()V", sig := { parameters := [], returnType := none }, accessFlags := 2, code := none }
def k1c1 : Code := { maxStack := 2, maxLocals := 1, code := method_2_code, exceptionTable := #[], attributes := #[] }
def k1m1 : Method := { name := "pick", desc := "(I)Lcom/example/lessor/lessor/protocol/Operation;", sig := { parameters := [.int], returnType := some (.object "com/example/lessor/lessor/protocol/Operation") }, accessFlags := 10, code := some k1c1 }
def k1c2 : Code := { maxStack := 2, maxLocals := 7, code := code, exceptionTable := #[], attributes := #[] }
def k1m2 : Method := { name := "law", desc := "(I)Z", sig := { parameters := [.int], returnType := some .boolean }, accessFlags := 9, code := some k1c2 }
/-- com/example/lessor/lessor/protocol/OperationIsBatchedPinLaw -/
def k1 : Class := { plain "com/example/lessor/lessor/protocol/OperationIsBatchedPinLaw" (some 0) with
  accessFlags := 49
  interfaces := #[]
  cf := some (fileOf pool1 54 #[] #[{ accessFlags := 2, nameIndex := 5, descriptorIndex := 6, attributes := #[] }, { accessFlags := 10, nameIndex := 57, descriptorIndex := 58, attributes := #[] }, { accessFlags := 9, nameIndex := 76, descriptorIndex := 77, attributes := #[] }] 49 2 #[] #[])
  fields := #[]
  methods := #[k1m0, k1m1, k1m2]
  instanceTypes := #[]
  staticTypes := #[]
  resolved := Array.replicate 80 none
  statics := none }

def pool2 : Array CpInfo := pool [(1, .class_ 2), (0, u "java/lang/constant/Constable"), (0, .class_ 4), (0, u "java/lang/Object")] 6

/-- java/lang/constant/Constable -/
def k2 : Class := { plain "java/lang/constant/Constable" (some 0) with
  accessFlags := 1537
  interfaces := #[]
  cf := some (fileOf pool2 1 #[] #[] 1537 3 #[] #[])
  fields := #[]
  methods := #[]
  instanceTypes := #[]
  staticTypes := #[]
  resolved := Array.replicate 11 none
  statics := none }

def pool3 : Array CpInfo := pool [(1, .class_ 2), (0, u "java/lang/Comparable"), (0, .class_ 4), (0, u "java/lang/Object")] 7

/-- java/lang/Comparable -/
def k3 : Class := { plain "java/lang/Comparable" (some 0) with
  accessFlags := 1537
  interfaces := #[]
  cf := some (fileOf pool3 1 #[] #[] 1537 3 #[] #[])
  fields := #[]
  methods := #[]
  instanceTypes := #[]
  staticTypes := #[]
  resolved := Array.replicate 12 none
  statics := none }

def pool4 : Array CpInfo := pool [(1, .class_ 2), (0, u "java/io/Serializable"), (0, .class_ 4), (0, u "java/lang/Object")] 2

/-- java/io/Serializable -/
def k4 : Class := { plain "java/io/Serializable" (some 0) with
  accessFlags := 1537
  interfaces := #[]
  cf := some (fileOf pool4 1 #[] #[] 1537 3 #[] #[])
  fields := #[]
  methods := #[]
  instanceTypes := #[]
  staticTypes := #[]
  resolved := Array.replicate 7 none
  statics := none }

def pool5 : Array CpInfo := pool [(2, .class_ 4), (1, u "java/lang/Enum"), (0, u "name"), (0, u "Ljava/lang/String;"), (2, u "ordinal"), (0, u "I"), (1, .class_ 14), (1, u "java/lang/Object"), (4, u "hash"), (86, .class_ 108), (1, u "java/lang/Enum$EnumDesc"), (2, .class_ 112), (0, u "java/lang/constant/Constable"), (0, .class_ 114), (0, u "java/lang/Comparable"), (0, .class_ 116), (0, u "java/io/Serializable")] 87

/-- java/lang/Enum -/
def k5 : Class := { plain "java/lang/Enum" (some 0) with
  accessFlags := 1057
  interfaces := #[2, 3, 4]
  cf := some (fileOf pool5 2 #[.nestMembers #[106]] #[] 1057 12 #[111, 113, 115] #[{ accessFlags := 18, nameIndex := 5, descriptorIndex := 6, attributes := #[] }, { accessFlags := 18, nameIndex := 9, descriptorIndex := 10, attributes := #[] }, { accessFlags := 2, nameIndex := 19, descriptorIndex := 10, attributes := #[] }])
  fields := #[{ name := "name", type := (.object "java/lang/String"), accessFlags := 18, slot := 0, constantValue := 0 }, { name := "ordinal", type := .int, accessFlags := 18, slot := 1, constantValue := 0 }, { name := "hash", type := .int, accessFlags := 2, slot := 2, constantValue := 0 }]
  methods := #[]
  instanceTypes := #[(.object "java/lang/String"), .int, .int]
  staticTypes := #[]
  resolved := Array.replicate 204 none
  statics := none }

def pool6 : Array CpInfo := pool [(1, .class_ 2), (0, u "com/example/lessor/lessor/protocol/Operation"), (0, .fieldref 1 4), (0, .nameAndType 5 6), (0, u "MKDIR"), (0, u "Lcom/example/lessor/lessor/protocol/Operation;"), (0, .fieldref 1 8), (0, .nameAndType 9 6), (0, u "CREATE"), (0, .fieldref 1 11), (0, .nameAndType 12 6), (0, u "UNLINK"), (0, .fieldref 1 14), (0, .nameAndType 15 6), (0, u "RMDIR"), (0, .fieldref 1 17), (0, .nameAndType 18 6), (0, u "RENAME"), (2, u "LIST"), (2, u "STAT"), (2, u "IMPORT"), (2, u "STATS"), (2, u "RENEW"), (2, u "RELEASE"), (2, u "BATCH"), (2, u "OPEN"), (2, u "CLOSE"), (2, u "$VALUES"), (0, u "[Lcom/example/lessor/lessor/protocol/Operation;"), (6, .class_ 58), (1, u "java/lang/Enum"), (11, u "command"), (0, u "Ljava/lang/String;"), (2, u "code"), (0, u "I"), (0, .fieldref 1 77), (0, .nameAndType 78 75), (0, u "arity"), (0, .fieldref 1 80), (0, .nameAndType 81 82), (0, u "variadic"), (0, u "Z"), (0, .fieldref 1 84), (0, .nameAndType 85 86), (0, u "effect"), (0, u "Lcom/example/lessor/lessor/protocol/Operation$Effect;"), (13, u "()Z"), (4, .class_ 107), (1, u "com/example/lessor/lessor/protocol/Operation$Effect"), (1, .fieldref 105 110), (0, .nameAndType 111 86), (0, u "CHANGES"), (63, u "()I"), (0, u "isVariadic"), (3, u "isBatched"), (2, u "changes")] 8

def k6c0 : Code := { maxStack := 1, maxLocals := 1, code := prog_33_method_9_code, exceptionTable := #[], attributes := #[] }
def k6m0 : Method := { name := "arity", desc := "()I", sig := { parameters := [], returnType := some .int }, accessFlags := 1, code := some k6c0 }
def k6c1 : Code := { maxStack := 1, maxLocals := 1, code := prog_33_method_10_code, exceptionTable := #[], attributes := #[] }
def k6m1 : Method := { name := "isVariadic", desc := "()Z", sig := { parameters := [], returnType := some .boolean }, accessFlags := 1, code := some k6c1 }
def k6c2 : Code := { maxStack := 2, maxLocals := 1, code := prog_33_method_14_code, exceptionTable := #[], attributes := #[] }
def k6m2 : Method := { name := "isBatched", desc := "()Z", sig := { parameters := [], returnType := some .boolean }, accessFlags := 1, code := some k6c2 }
def k6c3 : Code := { maxStack := 2, maxLocals := 1, code := prog_33_method_18_code, exceptionTable := #[], attributes := #[] }
def k6m3 : Method := { name := "changes", desc := "()Z", sig := { parameters := [], returnType := some .boolean }, accessFlags := 1, code := some k6c3 }
/-- com/example/lessor/lessor/protocol/Operation -/
def k6 : Class := { plain "com/example/lessor/lessor/protocol/Operation" (some 5) with
  accessFlags := 16433
  interfaces := #[]
  cf := some (fileOf pool6 1 #[.nestMembers #[105]] #[{ accessFlags := 1, nameIndex := 78, descriptorIndex := 175, attributes := #[] }, { accessFlags := 1, nameIndex := 176, descriptorIndex := 100, attributes := #[] }, { accessFlags := 1, nameIndex := 180, descriptorIndex := 100, attributes := #[] }, { accessFlags := 1, nameIndex := 183, descriptorIndex := 100, attributes := #[] }] 16433 56 #[] #[{ accessFlags := 16409, nameIndex := 5, descriptorIndex := 6, attributes := #[] }, { accessFlags := 16409, nameIndex := 9, descriptorIndex := 6, attributes := #[] }, { accessFlags := 16409, nameIndex := 12, descriptorIndex := 6, attributes := #[] }, { accessFlags := 16409, nameIndex := 15, descriptorIndex := 6, attributes := #[] }, { accessFlags := 16409, nameIndex := 18, descriptorIndex := 6, attributes := #[] }, { accessFlags := 16409, nameIndex := 21, descriptorIndex := 6, attributes := #[] }, { accessFlags := 16409, nameIndex := 24, descriptorIndex := 6, attributes := #[] }, { accessFlags := 16409, nameIndex := 27, descriptorIndex := 6, attributes := #[] }, { accessFlags := 16409, nameIndex := 30, descriptorIndex := 6, attributes := #[] }, { accessFlags := 16409, nameIndex := 33, descriptorIndex := 6, attributes := #[] }, { accessFlags := 16409, nameIndex := 36, descriptorIndex := 6, attributes := #[] }, { accessFlags := 16409, nameIndex := 39, descriptorIndex := 6, attributes := #[] }, { accessFlags := 16409, nameIndex := 42, descriptorIndex := 6, attributes := #[] }, { accessFlags := 16409, nameIndex := 45, descriptorIndex := 6, attributes := #[] }, { accessFlags := 18, nameIndex := 70, descriptorIndex := 71, attributes := #[] }, { accessFlags := 18, nameIndex := 74, descriptorIndex := 75, attributes := #[] }, { accessFlags := 18, nameIndex := 78, descriptorIndex := 75, attributes := #[] }, { accessFlags := 18, nameIndex := 81, descriptorIndex := 82, attributes := #[] }, { accessFlags := 18, nameIndex := 85, descriptorIndex := 86, attributes := #[] }, { accessFlags := 4122, nameIndex := 48, descriptorIndex := 49, attributes := #[] }])
  fields := #[{ name := "MKDIR", type := (.object "com/example/lessor/lessor/protocol/Operation"), accessFlags := 16409, slot := 0, constantValue := 0 }, { name := "CREATE", type := (.object "com/example/lessor/lessor/protocol/Operation"), accessFlags := 16409, slot := 1, constantValue := 0 }, { name := "UNLINK", type := (.object "com/example/lessor/lessor/protocol/Operation"), accessFlags := 16409, slot := 2, constantValue := 0 }, { name := "RMDIR", type := (.object "com/example/lessor/lessor/protocol/Operation"), accessFlags := 16409, slot := 3, constantValue := 0 }, { name := "RENAME", type := (.object "com/example/lessor/lessor/protocol/Operation"), accessFlags := 16409, slot := 4, constantValue := 0 }, { name := "LIST", type := (.object "com/example/lessor/lessor/protocol/Operation"), accessFlags := 16409, slot := 5, constantValue := 0 }, { name := "STAT", type := (.object "com/example/lessor/lessor/protocol/Operation"), accessFlags := 16409, slot := 6, constantValue := 0 }, { name := "IMPORT", type := (.object "com/example/lessor/lessor/protocol/Operation"), accessFlags := 16409, slot := 7, constantValue := 0 }, { name := "STATS", type := (.object "com/example/lessor/lessor/protocol/Operation"), accessFlags := 16409, slot := 8, constantValue := 0 }, { name := "RENEW", type := (.object "com/example/lessor/lessor/protocol/Operation"), accessFlags := 16409, slot := 9, constantValue := 0 }, { name := "RELEASE", type := (.object "com/example/lessor/lessor/protocol/Operation"), accessFlags := 16409, slot := 10, constantValue := 0 }, { name := "BATCH", type := (.object "com/example/lessor/lessor/protocol/Operation"), accessFlags := 16409, slot := 11, constantValue := 0 }, { name := "OPEN", type := (.object "com/example/lessor/lessor/protocol/Operation"), accessFlags := 16409, slot := 12, constantValue := 0 }, { name := "CLOSE", type := (.object "com/example/lessor/lessor/protocol/Operation"), accessFlags := 16409, slot := 13, constantValue := 0 }, { name := "command", type := (.object "java/lang/String"), accessFlags := 18, slot := 3, constantValue := 0 }, { name := "code", type := .int, accessFlags := 18, slot := 4, constantValue := 0 }, { name := "arity", type := .int, accessFlags := 18, slot := 5, constantValue := 0 }, { name := "variadic", type := .boolean, accessFlags := 18, slot := 6, constantValue := 0 }, { name := "effect", type := (.object "com/example/lessor/lessor/protocol/Operation$Effect"), accessFlags := 18, slot := 7, constantValue := 0 }, { name := "$VALUES", type := (.array (.object "com/example/lessor/lessor/protocol/Operation")), accessFlags := 4122, slot := 14, constantValue := 0 }]
  methods := #[k6m0, k6m1, k6m2, k6m3]
  instanceTypes := #[(.object "java/lang/String"), .int, .int, (.object "java/lang/String"), .int, .int, .boolean, (.object "com/example/lessor/lessor/protocol/Operation$Effect")]
  staticTypes := #[(.object "com/example/lessor/lessor/protocol/Operation"), (.object "com/example/lessor/lessor/protocol/Operation"), (.object "com/example/lessor/lessor/protocol/Operation"), (.object "com/example/lessor/lessor/protocol/Operation"), (.object "com/example/lessor/lessor/protocol/Operation"), (.object "com/example/lessor/lessor/protocol/Operation"), (.object "com/example/lessor/lessor/protocol/Operation"), (.object "com/example/lessor/lessor/protocol/Operation"), (.object "com/example/lessor/lessor/protocol/Operation"), (.object "com/example/lessor/lessor/protocol/Operation"), (.object "com/example/lessor/lessor/protocol/Operation"), (.object "com/example/lessor/lessor/protocol/Operation"), (.object "com/example/lessor/lessor/protocol/Operation"), (.object "com/example/lessor/lessor/protocol/Operation"), (.array (.object "com/example/lessor/lessor/protocol/Operation"))]
  resolved := Array.replicate 192 none
  statics := some 0 }

def pool7 : Array CpInfo := pool [(1, .class_ 2), (0, u "com/example/lessor/lessor/protocol/Operation$Effect"), (2, u "READS"), (0, u "Lcom/example/lessor/lessor/protocol/Operation$Effect;"), (2, u "CHANGES"), (2, u "NONE"), (2, u "$VALUES"), (0, u "[Lcom/example/lessor/lessor/protocol/Operation$Effect;"), (6, .class_ 25), (1, u "java/lang/Enum"), (26, .class_ 53), (0, u "com/example/lessor/lessor/protocol/Operation")] 2

/-- com/example/lessor/lessor/protocol/Operation$Effect -/
def k7 : Class := { plain "com/example/lessor/lessor/protocol/Operation$Effect" (some 5) with
  accessFlags := 16432
  interfaces := #[]
  cf := some (fileOf pool7 1 #[.nestHost 52] #[] 16432 23 #[] #[{ accessFlags := 16409, nameIndex := 5, descriptorIndex := 6, attributes := #[] }, { accessFlags := 16409, nameIndex := 9, descriptorIndex := 6, attributes := #[] }, { accessFlags := 16409, nameIndex := 12, descriptorIndex := 6, attributes := #[] }, { accessFlags := 4122, nameIndex := 15, descriptorIndex := 16, attributes := #[] }])
  fields := #[{ name := "READS", type := (.object "com/example/lessor/lessor/protocol/Operation$Effect"), accessFlags := 16409, slot := 0, constantValue := 0 }, { name := "CHANGES", type := (.object "com/example/lessor/lessor/protocol/Operation$Effect"), accessFlags := 16409, slot := 1, constantValue := 0 }, { name := "NONE", type := (.object "com/example/lessor/lessor/protocol/Operation$Effect"), accessFlags := 16409, slot := 2, constantValue := 0 }, { name := "$VALUES", type := (.array (.object "com/example/lessor/lessor/protocol/Operation$Effect")), accessFlags := 4122, slot := 3, constantValue := 0 }]
  methods := #[]
  instanceTypes := #[(.object "java/lang/String"), .int, .int]
  staticTypes := #[(.object "com/example/lessor/lessor/protocol/Operation$Effect"), (.object "com/example/lessor/lessor/protocol/Operation$Effect"), (.object "com/example/lessor/lessor/protocol/Operation$Effect"), (.array (.object "com/example/lessor/lessor/protocol/Operation$Effect"))]
  resolved := Array.replicate 56 none
  statics := some 1 }

def pool8 : Array CpInfo := pool [(1, u "java/lang/Cloneable"), (0, .class_ 1), (0, u "java/lang/Object"), (0, .class_ 3)] 3

/-- java/lang/Cloneable -/
def k8 : Class := { plain "java/lang/Cloneable" (some 0) with
  accessFlags := 1537
  interfaces := #[]
  cf := some (fileOf pool8 2 #[] #[] 1537 4 #[] #[])
  fields := #[]
  methods := #[]
  instanceTypes := #[]
  staticTypes := #[]
  resolved := Array.replicate 8 none
  statics := none }

/-- the primitive byte -/
def k9 : Class := { plain "byte" none with kind := .primitive 'B', accessFlags := 0x411 }
/-- [B -/
def k10 : Class := { plain "[B" (some 0) with kind := .array 9 .byte, interfaces := #[8, 4], accessFlags := 1041 }

/-- the primitive int -/
def k11 : Class := { plain "int" none with kind := .primitive 'I', accessFlags := 0x411 }
/-- [I -/
def k12 : Class := { plain "[I" (some 0) with kind := .array 11 .int, interfaces := #[8, 4], accessFlags := 1041 }

def heap : Heap := #[{ cls := 6, slots := #[.ref 2, .ref 5, .ref 6, .ref 4, .ref 8, .ref 16, .ref 18, .ref 11, .ref 14, .ref 15, .ref 13, .ref 12, .ref 7, .ref 10, .null], vm := .statics 6 },
  { cls := 7, slots := #[.ref 17, .ref 3, .ref 9, .null], vm := .statics 7 },
  { cls := 6, slots := #[.null, .int 0, .int 0, .null, .int 0, .int 1, .int 0, .ref 3], vm := .none },
  { cls := 7, slots := #[.null, .int 1, .int 0], vm := .none },
  { cls := 6, slots := #[.null, .int 3, .int 0, .null, .int 0, .int 1, .int 0, .ref 3], vm := .none },
  { cls := 6, slots := #[.null, .int 1, .int 0, .null, .int 0, .int 1, .int 0, .ref 3], vm := .none },
  { cls := 6, slots := #[.null, .int 2, .int 0, .null, .int 0, .int 1, .int 0, .ref 3], vm := .none },
  { cls := 6, slots := #[.null, .int 12, .int 0, .null, .int 0, .int 1, .int 0, .ref 9], vm := .none },
  { cls := 6, slots := #[.null, .int 4, .int 0, .null, .int 0, .int 2, .int 0, .ref 3], vm := .none },
  { cls := 7, slots := #[.null, .int 2, .int 0], vm := .none },
  { cls := 6, slots := #[.null, .int 13, .int 0, .null, .int 0, .int 0, .int 0, .ref 9], vm := .none },
  { cls := 6, slots := #[.null, .int 7, .int 0, .null, .int 0, .int 1, .int 1, .ref 3], vm := .none },
  { cls := 6, slots := #[.null, .int 11, .int 0, .null, .int 0, .int 0, .int 0, .ref 3], vm := .none },
  { cls := 6, slots := #[.null, .int 10, .int 0, .null, .int 0, .int 0, .int 0, .ref 9], vm := .none },
  { cls := 6, slots := #[.null, .int 8, .int 0, .null, .int 0, .int 0, .int 0, .ref 9], vm := .none },
  { cls := 6, slots := #[.null, .int 9, .int 0, .null, .int 0, .int 0, .int 0, .ref 9], vm := .none },
  { cls := 6, slots := #[.null, .int 5, .int 0, .null, .int 0, .int 1, .int 0, .ref 17], vm := .none },
  { cls := 7, slots := #[.null, .int 0, .int 0], vm := .none },
  { cls := 6, slots := #[.null, .int 6, .int 0, .null, .int 0, .int 1, .int 0, .ref 17], vm := .none }]
def classes : Array Class := #[k0, k1, k2, k3, k4, k5, k6, k7, k8, k9, k10, k11, k12]
def interned : List (Array UInt16 × Addr) := []
def slotsUsed : Nat := 140
def theMethod : MethodId := ⟨1, 2⟩
def args0 : Array Value := #[.int 5]
def aboutOver (below : List Frame) : State where
  vm := { classes := classes, interned := interned.toArray }
  heap := heap
  slotsUsed := slotsUsed
  threads := #[{ frames := .invoking theMethod args0 :: below }]
def below0 : List Frame := [.native { method := ⟨0, 0⟩, args := #[] }]
def about1 : State := aboutOver below0
def p0 : Program := .bare "" "" ""
def e0 : Env := launch0.env 0 0 0
theorem w_frames : about1.frames = Frame.invoking theMethod args0 :: below0 := rfl
set_option maxRecDepth 65536 in
theorem w_args : argsFit about1.vm theMethod args0 = true := by decide +kernel
set_option maxRecDepth 65536 in
theorem w_heap : heapFits about1 = true := by decide +kernel
set_option maxRecDepth 65536 in
theorem w_runnable : about1.curStatus? = some .runnable := by decide +kernel
set_option maxRecDepth 65536 in
theorem w_alone : about1.alone = true := by decide +kernel
set_option maxRecDepth 65536 in
theorem w_named : about1.methodNamed? x = some theMethod := by decide +kernel
set_option maxRecDepth 65536 in
theorem w_hears : about1.hears theMethod below0 = true := by decide +kernel
set_option maxRecDepth 65536 in
theorem w_ripe : about1.ripe theMethod args0 below0 = true := by decide +kernel
theorem w_running : about1.status = .running := rfl
set_option maxRecDepth 65536 in
theorem w_room : about1.hasRoom e0.platform room_1 = true :=
  launch0.hasRoom_least _ room_1 (by decide +kernel) (by decide +kernel) (by decide +kernel) (by decide +kernel) (by decide +kernel) (by decide +kernel)
theorem allAtoms_all (ts : List Jvm.Cond) (a : Array Jvm.Value) (st : Jvm.State) : (allAtoms ts).before a st = ts.all (fun c => c.before a st) := by
  induction ts with
  | nil => rfl
  | cons c t ih =>
    show (Jvm.Cond.and c (allAtoms t)).before a st = _
    rw [Jvm.Cond.before_and, ih, List.all_cons]
def words1 : List Jvm.Cond := Jvm.Cond.code x code maxLocals ret :: tables_1
/-- a 'code' word, met by the world's own term for the bytes: nothing is compared byte by byte -/
theorem code_word {y : MethodName} {bytes : ByteArray} {mx : Nat} {rt : Option FieldType} {a : Array Value} {s : State} {m : MethodId} {meth : Method} {c : Code} (h1 : s.methodNamed? y = some m) (h2 : s.vm.method? m = some meth) (h3 : meth.code = some c) (h4 : c.code = bytes)
    (h5 : (c.maxLocals == mx && c.exceptionTable.isEmpty && decide (c.maxStack ≤ mostOperands) && decide (meth.sig.returnType = rt) && !meth.locks && decide (parseMethodDescriptor y.desc = some meth.sig)) = true) : (Jvm.Cond.code y bytes mx rt).before a s = true := by
  simp only [Bool.and_eq_true, beq_iff_eq, Bool.not_eq_true', decide_eq_true_eq] at h5
  obtain ⟨⟨⟨⟨⟨g1, g2⟩, g3⟩, g4⟩, g5⟩, g6⟩ := h5
  simp [Cond.before, Cond.holds, Cond.value, h1, h2, h3, h4, g1, g2, g3, g4, g5, g6]
def isCode : Jvm.Cond → Bool
  | .code _ _ _ _ => true
  | _ => false
theorem all_split {L : List Jvm.Cond} {P : Jvm.Cond → Bool} (h1 : L.all (fun c => isCode c || P c) = true) (h2 : ∀ c ∈ L.filter isCode, P c = true) : L.all P = true := by
  refine List.all_eq_true.mpr fun c hc => ?_
  have h := List.all_eq_true.mp h1 c hc
  rcases Bool.eq_false_or_eq_true (isCode c) with hi | hi
  · exact h2 c (List.mem_filter.mpr ⟨hc, hi⟩)
  · simpa [hi] using h
set_option maxRecDepth 65536 in
theorem w_c0 : (Jvm.Cond.code x code maxLocals ret).before args0 about1 = true := code_word (m := ⟨1, 2⟩) (meth := k1m2) (c := k1c2) (by decide +kernel) rfl rfl rfl (by decide +kernel)
set_option maxRecDepth 65536 in
theorem w_c1 : (Jvm.Cond.code ({ cls := "com/example/lessor/lessor/protocol/OperationIsBatchedPinLaw", name := "pick", desc := "(I)Lcom/example/lessor/lessor/protocol/Operation;" } : Jvm.MethodName) method_2_code (1 : Nat) (Option.some (Jvm.ClassFile.FieldType.object "com/example/lessor/lessor/protocol/Operation"))).before args0 about1 = true := code_word (m := ⟨1, 1⟩) (meth := k1m1) (c := k1c1) (by decide +kernel) rfl rfl rfl (by decide +kernel)
set_option maxRecDepth 65536 in
theorem w_c2 : (Jvm.Cond.code ({ cls := "com/example/lessor/lessor/protocol/Operation", name := "isBatched", desc := "()Z" } : Jvm.MethodName) prog_33_method_14_code (1 : Nat) (Option.some Jvm.ClassFile.FieldType.boolean)).before args0 about1 = true := code_word (m := ⟨6, 2⟩) (meth := k6m2) (c := k6c2) (by decide +kernel) rfl rfl rfl (by decide +kernel)
set_option maxRecDepth 65536 in
theorem w_c3 : (Jvm.Cond.code ({ cls := "com/example/lessor/lessor/protocol/Operation", name := "arity", desc := "()I" } : Jvm.MethodName) prog_33_method_9_code (1 : Nat) (Option.some Jvm.ClassFile.FieldType.int)).before args0 about1 = true := code_word (m := ⟨6, 0⟩) (meth := k6m0) (c := k6c0) (by decide +kernel) rfl rfl rfl (by decide +kernel)
set_option maxRecDepth 65536 in
theorem w_c4 : (Jvm.Cond.code ({ cls := "com/example/lessor/lessor/protocol/Operation", name := "changes", desc := "()Z" } : Jvm.MethodName) prog_33_method_18_code (1 : Nat) (Option.some Jvm.ClassFile.FieldType.boolean)).before args0 about1 = true := code_word (m := ⟨6, 3⟩) (meth := k6m3) (c := k6c3) (by decide +kernel) rfl rfl rfl (by decide +kernel)
set_option maxRecDepth 65536 in
theorem w_c5 : (Jvm.Cond.code ({ cls := "com/example/lessor/lessor/protocol/Operation", name := "isVariadic", desc := "()Z" } : Jvm.MethodName) prog_33_method_10_code (1 : Nat) (Option.some Jvm.ClassFile.FieldType.boolean)).before args0 about1 = true := code_word (m := ⟨6, 1⟩) (meth := k6m1) (c := k6c1) (by decide +kernel) rfl rfl rfl (by decide +kernel)
def codes1 : List Jvm.Cond := [Jvm.Cond.code x code maxLocals ret, Jvm.Cond.code ({ cls := "com/example/lessor/lessor/protocol/OperationIsBatchedPinLaw", name := "pick", desc := "(I)Lcom/example/lessor/lessor/protocol/Operation;" } : Jvm.MethodName) method_2_code (1 : Nat) (Option.some (Jvm.ClassFile.FieldType.object "com/example/lessor/lessor/protocol/Operation")), Jvm.Cond.code ({ cls := "com/example/lessor/lessor/protocol/Operation", name := "isBatched", desc := "()Z" } : Jvm.MethodName) prog_33_method_14_code (1 : Nat) (Option.some Jvm.ClassFile.FieldType.boolean), Jvm.Cond.code ({ cls := "com/example/lessor/lessor/protocol/Operation", name := "arity", desc := "()I" } : Jvm.MethodName) prog_33_method_9_code (1 : Nat) (Option.some Jvm.ClassFile.FieldType.int), Jvm.Cond.code ({ cls := "com/example/lessor/lessor/protocol/Operation", name := "changes", desc := "()Z" } : Jvm.MethodName) prog_33_method_18_code (1 : Nat) (Option.some Jvm.ClassFile.FieldType.boolean), Jvm.Cond.code ({ cls := "com/example/lessor/lessor/protocol/Operation", name := "isVariadic", desc := "()Z" } : Jvm.MethodName) prog_33_method_10_code (1 : Nat) (Option.some Jvm.ClassFile.FieldType.boolean)]
set_option maxRecDepth 65536 in
theorem codes_eq : words1.filter isCode = codes1 := rfl
theorem w_codes : ∀ c ∈ words1.filter isCode, c.before args0 about1 = true := by
  rw [codes_eq]
  intro c hc
  simp only [codes1, List.mem_cons, List.not_mem_nil, or_false] at hc
  rcases hc with rfl | rfl | rfl | rfl | rfl | rfl
  · exact w_c0
  · exact w_c1
  · exact w_c2
  · exact w_c3
  · exact w_c4
  · exact w_c5
set_option maxRecDepth 65536 in
theorem w_t1 : (words1.take 24).all (fun c => isCode c || c.before args0 about1) = true := by decide +kernel
set_option maxRecDepth 65536 in
theorem w_t2 : ((words1.drop 24).take 24).all (fun c => isCode c || c.before args0 about1) = true := by decide +kernel
set_option maxRecDepth 65536 in
theorem w_t3 : ((words1.drop 24).drop 24).all (fun c => isCode c || c.before args0 about1) = true := by decide +kernel
theorem w_tables : (allAtoms (Jvm.Cond.code x code maxLocals ret :: tables_1)).before args0 about1 = true := by
  rw [allAtoms_all]
  show words1.all (fun c => c.before args0 about1) = true
  refine all_split ?_ w_codes
  rw [← List.take_append_drop 24 words1, List.all_append, w_t1, ← List.take_append_drop 24 (words1.drop 24), List.all_append, w_t2, w_t3]
  rfl
set_option maxRecDepth 65536 in
theorem w_case : (Jvm.Cond.and given_1 narrow_1).before args0 about1 = true := by decide +kernel
theorem w_applies : (headSpec (Jvm.Cond.code x code maxLocals ret :: tables_1) room_1).applies x e0.platform about1 = true :=
  (Spec.applies_iff w_frames).mpr ⟨w_running, w_runnable, w_alone, w_named, w_hears, w_ripe, w_room, w_tables⟩
theorem atStart : AtStart classFile x code maxLocals ret World_1 tables_1 room_1 Calls_1 rest_1 Pre_1 launch0 p0 e0 about1 theMethod args0 below0 :=
  ⟨lists_1, trivial, launch0.admits_env _ _ _, launch0.least_env, fairChoices_fair.cas, fairChoices_fair.clock, w_frames, w_args, w_heap, w_applies, trivial, trivial, w_case⟩
end start1
theorem witness_1 : WitnessClaimed_1 := ⟨start1.p0, start1.e0, start1.about1, start1.theMethod, start1.args0, start1.below0, start1.atStart⟩
end Jvm.Pilot.@@N@@
