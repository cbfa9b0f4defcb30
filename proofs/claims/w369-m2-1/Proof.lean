import JvmDerived
import JvmDerived.Pilot.@@N@@Statement
import JvmDerived.Pilot.@@N@@Code
set_option linter.unusedVariables false
set_option linter.unusedSimpArgs false
@@BLOCK:NumsL.lean.txt@@
namespace Jvm.Pilot.@@N@@
open Jvm Jvm.ClassFile Sem Op Lib Jvm.Free Jvm.Stand Jvm.LawKit Jvm.RoadKit Bundle Jvm.Pilot.@@N@@.Jvm.D
def OwnQ (r : Option Value) (h0 : Heap) (n0 : Nat) (v : Option Value) (h : Heap) (L : List Loc) : Prop := v = r ∧ Fr n0 L ∧ h = h0
theorem own_fldI {args : Array Value} {s : State} {t : Term} {a : Addr} {C n d : String} {v : Int32} (ev : t.eval args s none [] s = some (.ref a)) (h : (Cond.eq (Term.field t C n d) (Term.int v)).value args s none s [] = some true) : Fld s s.heap a C n d (.int v) := by
  obtain ⟨x, y, hx, hy, k1, k2⟩ := cmp_v (Or.inl h)
  have hy' : y = .int v := (Option.some.inj (hy.symm.trans (Term.int_eval v)))
  subst hy'
  obtain ⟨z, rfl⟩ := k2
  have e : z = v := by
    simp only [Cond.value, hx, hy] at h
    simpa using h
  subst e
  exact Fld.start ((fld_at ev).symm.trans hx)
theorem own_fldN {args : Array Value} {s : State} {t : Term} {a : Addr} {C n d : String} (ev : t.eval args s none [] s = some (.ref a)) (h : (Cond.eq (Term.field t C n d) Term.null).value args s none s [] = some true) : Fld s s.heap a C n d .null :=
  Fld.start ((fld_at ev).symm.trans (null_v h))
theorem own_fldR {args : Array Value} {s : State} {t u : Term} {a b : Addr} {C n d : String} (ev : t.eval args s none [] s = some (.ref a)) (eu : u.eval args s none [] s = some (.ref b)) (h : (Cond.eq (Term.field t C n d) u).value args s none s [] = some true) : Fld s s.heap a C n d (.ref b) := by
  obtain ⟨x, y, hx, hy, k1, k2⟩ := cmp_v (Or.inl h)
  have hy' : y = .ref b := (Option.some.inj (hy.symm.trans eu))
  subst hy'
  have hr : x.isRef = true := by cases x <;> simp_all [Kin, Value.isRef]
  have e : x = .ref b := gotT (eq_R hx hy hr rfl) h
  subst e
  exact Fld.start ((fld_at ev).symm.trans hx)
theorem own_k_n (k : Int32) (h0 : 0 ≤ k.toInt) (h1 : k.toInt < 6) : k = (0 : Int32) ∨ k = (1 : Int32) ∨ k = (2 : Int32) ∨ k = (3 : Int32) ∨ k = (4 : Int32) ∨ k = (5 : Int32) := by
  have h : k.toInt = 0 ∨ k.toInt = 1 ∨ k.toInt = 2 ∨ k.toInt = 3 ∨ k.toInt = 4 ∨ k.toInt = 5 := by omega
  rcases h with h | h | h | h | h | h
  · exact (Or.inl (Int32.toInt_inj.mp (h.trans (by decide))))
  · exact (Or.inr (Or.inl (Int32.toInt_inj.mp (h.trans (by decide)))))
  · exact (Or.inr (Or.inr (Or.inl (Int32.toInt_inj.mp (h.trans (by decide))))))
  · exact (Or.inr (Or.inr (Or.inr (Or.inl (Int32.toInt_inj.mp (h.trans (by decide)))))))
  · exact (Or.inr (Or.inr (Or.inr (Or.inr (Or.inl (Int32.toInt_inj.mp (h.trans (by decide))))))))
  · exact (Or.inr (Or.inr (Or.inr (Or.inr (Or.inr (Int32.toInt_inj.mp (h.trans (by decide))))))))
theorem own_k (x : Int32) : ((x &&& (2147483647 : Int32)) % (6 : Int32)) = (0 : Int32) ∨ ((x &&& (2147483647 : Int32)) % (6 : Int32)) = (1 : Int32) ∨ ((x &&& (2147483647 : Int32)) % (6 : Int32)) = (2 : Int32) ∨ ((x &&& (2147483647 : Int32)) % (6 : Int32)) = (3 : Int32) ∨ ((x &&& (2147483647 : Int32)) % (6 : Int32)) = (4 : Int32) ∨ ((x &&& (2147483647 : Int32)) % (6 : Int32)) = (5 : Int32) := by
  have e := Jvm.Kit.i32_mask x (2147483647 : Int32) (k := 31) (by decide) (by decide)
  have e2 := Jvm.Kit.i32_rem_nonneg (x := x &&& (2147483647 : Int32)) (y := (6 : Int32)) (by omega)
  have e3 : ((6 : Int32)).toInt = 6 := by decide
  rw [e3] at e2
  exact own_k_n _ (by omega) (by omega)
theorem d1_0 : decode prog_54_method_5_code 0 = .ok (.aload_n 0, 1) := by decide +kernel
theorem d1_1 : decode prog_54_method_5_code 1 = .ok (.getfield 41, 3) := by decide +kernel
theorem d1_4 : decode prog_54_method_5_code 4 = .ok (.ifnull 7, 3) := by decide +kernel
theorem d1_7 : decode prog_54_method_5_code 7 = .ok (.iconst 1, 1) := by decide +kernel
theorem d1_8 : decode prog_54_method_5_code 8 = .ok (.goto 4, 3) := by decide +kernel
theorem d1_12 : decode prog_54_method_5_code 12 = .ok (.ireturn, 1) := by decide +kernel
theorem pn_1 : plainName "com/example/indexwright/indexwright/sql/ColumnType" = true := by first | (simp [plainName, overriddenIn]; done) | decide +kernel
theorem ef_1 (m : MethodId) (x0 : Addr) : entryFrame m #[(.ref x0)] 1 = mkF m 0 #[.val (.ref x0)] [] := by first | (simp [entryFrame, mkF, argsToLocals, Value.category]; done) | rfl
def Q1_f (Z : State) (a1 : Addr) (w2 : Addr) (h0 : Heap) (n0 : Nat) (v : Option Value) (h : Heap) (L : List Loc) : Prop := v = some (.int (1 : Int32)) ∧ Fr n0 L ∧ h = h0
set_option maxRecDepth 65536 in
set_option maxHeartbeats 40000000 in
theorem rm1_f (l : Launch) (Z : State) (a0 : Array Value) (hw : ∀ d ∈ tables_1, d.before a0 Z = true) (ws : List Jvm.Cond) (a1 : Addr) (w2 : Addr) (h0 : Heap) (n0 : Nat) (Z0 : n0 ≤ h0.size) (F_element_a1 : Fld Z h0 a1 "com/example/indexwright/indexwright/sql/ColumnType" "element" "Lcom/example/indexwright/indexwright/sql/ColumnType;" (.ref w2)) :
    MetFree l (⟨"com/example/indexwright/indexwright/sql/ColumnType", "isArray", "()Z"⟩ : MethodName) (head1 (Jvm.Cond.code (⟨"com/example/indexwright/indexwright/sql/ColumnType", "isArray", "()Z"⟩ : MethodName) prog_54_method_5_code 1 (some .boolean) :: ws) ({ frames := 0, cells := 0, slots := 0, locals := 0 } : Room)) (fun a U => a = #[(.ref a1)] ∧ Z.Warmed39 U.vm ∧ U.heap = h0) (fun _ _ _ _ _ => True) (fun _ U o U' => ∃ v L, o = .returned v ∧ Q1_f Z a1 w2 h0 n0 v U'.heap L ∧ FrameEnd U o U' L ({ frames := 0, cells := 0, slots := 0, locals := 0 } : Room).cells ({ frames := 0, cells := 0, slots := 0, locals := 0 } : Room).slots) := by
  refine MetFree.of_bodySF (plainFor_of_name pn_1) hisR ?_
  intro p e s m args below meth c s₁ Bd hml0 hP hK
  obtain ⟨rfl, hZ, hh⟩ := hP
  have hx := Bd.exec
  have hby := Bd.bytes
  have hml : c.maxLocals = 1 := hml0
  have hown : s.vm.findClass "com/example/indexwright/indexwright/sql/ColumnType" = some m.cls := findClass_of_methodNamed Bd.named
  have hnm := (name_of_methodNamed Bd.named Bd.method).1
  have X0 : Stand p l e ({ frames := 0, cells := 0, slots := 0, locals := 0 } : Room) s m #[(.ref a1)] below meth c s₁ [] 0 0 := Stand.of_body Bd
  have e0 : s₁.heap = h0 := by rw [← hh, Bd.state]; rfl
  have N0 := Fr.nil n0
  have pre0 : ∀ t, Steps p.tables e below (s₁.setTop (mkF m 0 #[.val (.ref a1)] [])) t → Steps p.tables e below (s₁.setTop (entryFrame m #[(.ref a1)] 1)) t := fun t k => castTop (ef_1 m a1) k
  -- 3. LAWS
  obtain ⟨T3, X3, e3, st3⟩ := getF X0 hx hZ hown (host := "") (Or.inl (hw _ (List.mem_of_getElem? (i := 9) rfl))) Via.refl e0 F_element_a1 (g := (mkF m 1 #[.val (.ref a1)] [(.ref a1)])) rfl rfl (hb hby d1_1)
  obtain ⟨fs, hr, hrun, hended, hW, hsame⟩ := X3.leave (v := some (.int (1 : Int32))) (fun h => by rw [Bd.returns] at h; cases h)
  refine ⟨_, _, pre0 _ ?_, hrun, hended, _, _, rfl, ?_, ⟨_, rfl⟩, hW, hsame.mono (by decide) (by decide)⟩
  -- 4. STEPS
  · show Steps p.tables e below (s₁.setTop (mkF m 0 #[.val (.ref a1)] [])) _
    refine XS.aloadN X0.here hx rfl (hb hby d1_0) rfl rfl ?_
    show Steps p.tables e below (s₁.setTop (mkF m 1 #[.val (.ref a1)] [(.ref a1)])) _
    refine st3 _ ?_
    show Steps p.tables e below (T3.setTop (mkF m 4 #[.val (.ref a1)] [(.ref w2)])) _
    refine XS.ifnullNo X3.here hx rfl (hb hby d1_4) rfl ?_
    show Steps p.tables e below (T3.setTop (mkF m 7 #[.val (.ref a1)] [])) _
    refine XS.iconst X3.here hx rfl (hb hby d1_7) ?_
    show Steps p.tables e below (T3.setTop (mkF m 8 #[.val (.ref a1)] [(.int (1 : Int32))])) _
    refine XS.goto X3.here hx rfl (pc0 := 8) (pc' := 12) rfl (hb hby d1_8) (by decide) (by decide) ?_
    show Steps p.tables e below (T3.setTop (mkF m 12 #[.val (.ref a1)] [(.int (1 : Int32))])) _
    exact retN X3 hx (t := .boolean) Bd.returns (by simp) (hb hby d1_12) hr
  · show Q1_f Z a1 w2 h0 n0 _ T3.heap _
    rw [e3]
    exact ⟨rfl, N0, rfl⟩
theorem d1_11 : decode prog_54_method_5_code 11 = .ok (.iconst 0, 1) := by decide +kernel
def Q1_n4_t (Z : State) (a1 : Addr) (h0 : Heap) (n0 : Nat) (v : Option Value) (h : Heap) (L : List Loc) : Prop := v = some (.int (0 : Int32)) ∧ Fr n0 L ∧ h = h0
set_option maxRecDepth 65536 in
set_option maxHeartbeats 40000000 in
theorem rm1_n4_t (l : Launch) (Z : State) (a0 : Array Value) (hw : ∀ d ∈ tables_1, d.before a0 Z = true) (ws : List Jvm.Cond) (a1 : Addr) (h0 : Heap) (n0 : Nat) (Z0 : n0 ≤ h0.size) (F_element_a1 : Fld Z h0 a1 "com/example/indexwright/indexwright/sql/ColumnType" "element" "Lcom/example/indexwright/indexwright/sql/ColumnType;" .null) :
    MetFree l (⟨"com/example/indexwright/indexwright/sql/ColumnType", "isArray", "()Z"⟩ : MethodName) (head1 (Jvm.Cond.code (⟨"com/example/indexwright/indexwright/sql/ColumnType", "isArray", "()Z"⟩ : MethodName) prog_54_method_5_code 1 (some .boolean) :: ws) ({ frames := 0, cells := 0, slots := 0, locals := 0 } : Room)) (fun a U => a = #[(.ref a1)] ∧ Z.Warmed39 U.vm ∧ U.heap = h0) (fun _ _ _ _ _ => True) (fun _ U o U' => ∃ v L, o = .returned v ∧ Q1_n4_t Z a1 h0 n0 v U'.heap L ∧ FrameEnd U o U' L ({ frames := 0, cells := 0, slots := 0, locals := 0 } : Room).cells ({ frames := 0, cells := 0, slots := 0, locals := 0 } : Room).slots) := by
  refine MetFree.of_bodySF (plainFor_of_name pn_1) hisR ?_
  intro p e s m args below meth c s₁ Bd hml0 hP hK
  obtain ⟨rfl, hZ, hh⟩ := hP
  have hx := Bd.exec
  have hby := Bd.bytes
  have hml : c.maxLocals = 1 := hml0
  have hown : s.vm.findClass "com/example/indexwright/indexwright/sql/ColumnType" = some m.cls := findClass_of_methodNamed Bd.named
  have hnm := (name_of_methodNamed Bd.named Bd.method).1
  have X0 : Stand p l e ({ frames := 0, cells := 0, slots := 0, locals := 0 } : Room) s m #[(.ref a1)] below meth c s₁ [] 0 0 := Stand.of_body Bd
  have e0 : s₁.heap = h0 := by rw [← hh, Bd.state]; rfl
  have N0 := Fr.nil n0
  have pre0 : ∀ t, Steps p.tables e below (s₁.setTop (mkF m 0 #[.val (.ref a1)] [])) t → Steps p.tables e below (s₁.setTop (entryFrame m #[(.ref a1)] 1)) t := fun t k => castTop (ef_1 m a1) k
  -- 3. LAWS
  obtain ⟨T3, X3, e3, st3⟩ := getF X0 hx hZ hown (host := "") (Or.inl (hw _ (List.mem_of_getElem? (i := 9) rfl))) Via.refl e0 F_element_a1 (g := (mkF m 1 #[.val (.ref a1)] [(.ref a1)])) rfl rfl (hb hby d1_1)
  obtain ⟨fs, hr, hrun, hended, hW, hsame⟩ := X3.leave (v := some (.int (0 : Int32))) (fun h => by rw [Bd.returns] at h; cases h)
  refine ⟨_, _, pre0 _ ?_, hrun, hended, _, _, rfl, ?_, ⟨_, rfl⟩, hW, hsame.mono (by decide) (by decide)⟩
  -- 4. STEPS
  · show Steps p.tables e below (s₁.setTop (mkF m 0 #[.val (.ref a1)] [])) _
    refine XS.aloadN X0.here hx rfl (hb hby d1_0) rfl rfl ?_
    show Steps p.tables e below (s₁.setTop (mkF m 1 #[.val (.ref a1)] [(.ref a1)])) _
    refine st3 _ ?_
    show Steps p.tables e below (T3.setTop (mkF m 4 #[.val (.ref a1)] [.null])) _
    refine XS.ifnullYes X3.here hx rfl (pc0 := 4) (pc' := 11) rfl (hb hby d1_4) rfl (by decide) (by decide) ?_
    show Steps p.tables e below (T3.setTop (mkF m 11 #[.val (.ref a1)] [])) _
    refine XS.iconst X3.here hx rfl (hb hby d1_11) ?_
    show Steps p.tables e below (T3.setTop (mkF m 12 #[.val (.ref a1)] [(.int (0 : Int32))])) _
    exact retN X3 hx (t := .boolean) Bd.returns (by simp) (hb hby d1_12) hr
  · show Q1_n4_t Z a1 h0 n0 _ T3.heap _
    rw [e3]
    exact ⟨rfl, N0, rfl⟩
def P1 (Z : State) (h0 : Heap) (a1 : Addr) (r : Option Value) : Prop := (∃ (w2 : Addr), (Fld Z h0 a1 "com/example/indexwright/indexwright/sql/ColumnType" "element" "Lcom/example/indexwright/indexwright/sql/ColumnType;" (.ref w2)) ∧ r = some (.int (1 : Int32))) ∨ ((Fld Z h0 a1 "com/example/indexwright/indexwright/sql/ColumnType" "element" "Lcom/example/indexwright/indexwright/sql/ColumnType;" .null) ∧ r = some (.int (0 : Int32)))
set_option maxRecDepth 65536 in
set_option maxHeartbeats 40000000 in
theorem own_1 (l : Launch) (Z : State) (a0 : Array Value) (hw : ∀ d ∈ tables_1, d.before a0 Z = true) (ws : List Jvm.Cond) (a1 : Addr) (r : Option Value) (h0 : Heap) (n0 : Nat) (Z0 : n0 ≤ h0.size) (hp : P1 Z h0 a1 r) :
    MetFree l (⟨"com/example/indexwright/indexwright/sql/ColumnType", "isArray", "()Z"⟩ : MethodName) (head1 (Jvm.Cond.code (⟨"com/example/indexwright/indexwright/sql/ColumnType", "isArray", "()Z"⟩ : MethodName) prog_54_method_5_code 1 (some .boolean) :: ws) ({ frames := 0, cells := 0, slots := 0, locals := 0 } : Room)) (fun a U => a = #[(.ref a1)] ∧ Z.Warmed39 U.vm ∧ U.heap = h0) (fun _ _ _ _ _ => True) (fun _ U o U' => ∃ v L, o = .returned v ∧ OwnQ r h0 n0 v U'.heap L ∧ FrameEnd U o U' L ({ frames := 0, cells := 0, slots := 0, locals := 0 } : Room).cells ({ frames := 0, cells := 0, slots := 0, locals := 0 } : Room).slots) := by
  rcases hp with ⟨w2, k0, rfl⟩ | ⟨k0, rfl⟩
  · exact rm1_f l Z a0 hw ws a1 w2 h0 n0 Z0 k0
  · exact rm1_n4_t l Z a0 hw ws a1 h0 n0 Z0 k0
theorem d2_0 : decode prog_54_method_4_code 0 = .ok (.aload_n 0, 1) := by decide +kernel
theorem d2_1 : decode prog_54_method_4_code 1 = .ok (.getfield 41, 3) := by decide +kernel
theorem d2_4 : decode prog_54_method_4_code 4 = .ok (.areturn, 1) := by decide +kernel
theorem pn_2 : plainName "com/example/indexwright/indexwright/sql/ColumnType" = true := by first | (simp [plainName, overriddenIn]; done) | decide +kernel
theorem ef_2 (m : MethodId) (x0 : Addr) : entryFrame m #[(.ref x0)] 1 = mkF m 0 #[.val (.ref x0)] [] := by first | (simp [entryFrame, mkF, argsToLocals, Value.category]; done) | rfl
def Q2_o (Z : State) (a1 : Addr) (w2 : Addr) (h0 : Heap) (n0 : Nat) (v : Option Value) (h : Heap) (L : List Loc) : Prop := v = some (.ref w2) ∧ Fr n0 L ∧ h = h0
set_option maxRecDepth 65536 in
set_option maxHeartbeats 40000000 in
theorem rm2_o (l : Launch) (Z : State) (a0 : Array Value) (hw : ∀ d ∈ tables_1, d.before a0 Z = true) (ws : List Jvm.Cond) (a1 : Addr) (w2 : Addr) (h0 : Heap) (n0 : Nat) (Z0 : n0 ≤ h0.size) (F_element_a1 : Fld Z h0 a1 "com/example/indexwright/indexwright/sql/ColumnType" "element" "Lcom/example/indexwright/indexwright/sql/ColumnType;" (.ref w2)) :
    MetFree l (⟨"com/example/indexwright/indexwright/sql/ColumnType", "element", "()Lcom/example/indexwright/indexwright/sql/ColumnType;"⟩ : MethodName) (head1 (Jvm.Cond.code (⟨"com/example/indexwright/indexwright/sql/ColumnType", "element", "()Lcom/example/indexwright/indexwright/sql/ColumnType;"⟩ : MethodName) prog_54_method_4_code 1 (some (.object "com/example/indexwright/indexwright/sql/ColumnType")) :: ws) ({ frames := 0, cells := 0, slots := 0, locals := 0 } : Room)) (fun a U => a = #[(.ref a1)] ∧ Z.Warmed39 U.vm ∧ U.heap = h0) (fun _ _ _ _ _ => True) (fun _ U o U' => ∃ v L, o = .returned v ∧ Q2_o Z a1 w2 h0 n0 v U'.heap L ∧ FrameEnd U o U' L ({ frames := 0, cells := 0, slots := 0, locals := 0 } : Room).cells ({ frames := 0, cells := 0, slots := 0, locals := 0 } : Room).slots) := by
  refine MetFree.of_bodySF (plainFor_of_name pn_2) hisR ?_
  intro p e s m args below meth c s₁ Bd hml0 hP hK
  obtain ⟨rfl, hZ, hh⟩ := hP
  have hx := Bd.exec
  have hby := Bd.bytes
  have hml : c.maxLocals = 1 := hml0
  have hown : s.vm.findClass "com/example/indexwright/indexwright/sql/ColumnType" = some m.cls := findClass_of_methodNamed Bd.named
  have hnm := (name_of_methodNamed Bd.named Bd.method).1
  have X0 : Stand p l e ({ frames := 0, cells := 0, slots := 0, locals := 0 } : Room) s m #[(.ref a1)] below meth c s₁ [] 0 0 := Stand.of_body Bd
  have e0 : s₁.heap = h0 := by rw [← hh, Bd.state]; rfl
  have N0 := Fr.nil n0
  have pre0 : ∀ t, Steps p.tables e below (s₁.setTop (mkF m 0 #[.val (.ref a1)] [])) t → Steps p.tables e below (s₁.setTop (entryFrame m #[(.ref a1)] 1)) t := fun t k => castTop (ef_2 m a1) k
  -- 3. LAWS
  obtain ⟨T3, X3, e3, st3⟩ := getF X0 hx hZ hown (host := "") (Or.inl (hw _ (List.mem_of_getElem? (i := 9) rfl))) Via.refl e0 F_element_a1 (g := (mkF m 1 #[.val (.ref a1)] [(.ref a1)])) rfl rfl (hb hby d2_1)
  obtain ⟨fs, hr, hrun, hended, hW, hsame⟩ := X3.leave (v := some (.ref w2)) (fun h => by rw [Bd.returns] at h; cases h)
  refine ⟨_, _, pre0 _ ?_, hrun, hended, _, _, rfl, ?_, ⟨_, rfl⟩, hW, hsame.mono (by decide) (by decide)⟩
  -- 4. STEPS
  · show Steps p.tables e below (s₁.setTop (mkF m 0 #[.val (.ref a1)] [])) _
    refine XS.aloadN X0.here hx rfl (hb hby d2_0) rfl rfl ?_
    show Steps p.tables e below (s₁.setTop (mkF m 1 #[.val (.ref a1)] [(.ref a1)])) _
    refine st3 _ ?_
    show Steps p.tables e below (T3.setTop (mkF m 4 #[.val (.ref a1)] [(.ref w2)])) _
    jvm_step X3.here [X3.here.top, hx, (hb hby d2_4), X3.method', Bd.returns, Value.isRef, FieldType.isReference]
    first | (intro acts; rw [hr _ acts rfl rfl rfl]) | rw [hr _ _ rfl rfl rfl]
    exact Steps.refl _
  · show Q2_o Z a1 w2 h0 n0 _ T3.heap _
    rw [e3]
    exact ⟨rfl, N0, rfl⟩
def Q2_n_o (Z : State) (a1 : Addr) (h0 : Heap) (n0 : Nat) (v : Option Value) (h : Heap) (L : List Loc) : Prop := v = some .null ∧ Fr n0 L ∧ h = h0
set_option maxRecDepth 65536 in
set_option maxHeartbeats 40000000 in
theorem rm2_n_o (l : Launch) (Z : State) (a0 : Array Value) (hw : ∀ d ∈ tables_1, d.before a0 Z = true) (ws : List Jvm.Cond) (a1 : Addr) (h0 : Heap) (n0 : Nat) (Z0 : n0 ≤ h0.size) (F_element_a1 : Fld Z h0 a1 "com/example/indexwright/indexwright/sql/ColumnType" "element" "Lcom/example/indexwright/indexwright/sql/ColumnType;" .null) :
    MetFree l (⟨"com/example/indexwright/indexwright/sql/ColumnType", "element", "()Lcom/example/indexwright/indexwright/sql/ColumnType;"⟩ : MethodName) (head1 (Jvm.Cond.code (⟨"com/example/indexwright/indexwright/sql/ColumnType", "element", "()Lcom/example/indexwright/indexwright/sql/ColumnType;"⟩ : MethodName) prog_54_method_4_code 1 (some (.object "com/example/indexwright/indexwright/sql/ColumnType")) :: ws) ({ frames := 0, cells := 0, slots := 0, locals := 0 } : Room)) (fun a U => a = #[(.ref a1)] ∧ Z.Warmed39 U.vm ∧ U.heap = h0) (fun _ _ _ _ _ => True) (fun _ U o U' => ∃ v L, o = .returned v ∧ Q2_n_o Z a1 h0 n0 v U'.heap L ∧ FrameEnd U o U' L ({ frames := 0, cells := 0, slots := 0, locals := 0 } : Room).cells ({ frames := 0, cells := 0, slots := 0, locals := 0 } : Room).slots) := by
  refine MetFree.of_bodySF (plainFor_of_name pn_2) hisR ?_
  intro p e s m args below meth c s₁ Bd hml0 hP hK
  obtain ⟨rfl, hZ, hh⟩ := hP
  have hx := Bd.exec
  have hby := Bd.bytes
  have hml : c.maxLocals = 1 := hml0
  have hown : s.vm.findClass "com/example/indexwright/indexwright/sql/ColumnType" = some m.cls := findClass_of_methodNamed Bd.named
  have hnm := (name_of_methodNamed Bd.named Bd.method).1
  have X0 : Stand p l e ({ frames := 0, cells := 0, slots := 0, locals := 0 } : Room) s m #[(.ref a1)] below meth c s₁ [] 0 0 := Stand.of_body Bd
  have e0 : s₁.heap = h0 := by rw [← hh, Bd.state]; rfl
  have N0 := Fr.nil n0
  have pre0 : ∀ t, Steps p.tables e below (s₁.setTop (mkF m 0 #[.val (.ref a1)] [])) t → Steps p.tables e below (s₁.setTop (entryFrame m #[(.ref a1)] 1)) t := fun t k => castTop (ef_2 m a1) k
  -- 3. LAWS
  obtain ⟨T3, X3, e3, st3⟩ := getF X0 hx hZ hown (host := "") (Or.inl (hw _ (List.mem_of_getElem? (i := 9) rfl))) Via.refl e0 F_element_a1 (g := (mkF m 1 #[.val (.ref a1)] [(.ref a1)])) rfl rfl (hb hby d2_1)
  obtain ⟨fs, hr, hrun, hended, hW, hsame⟩ := X3.leave (v := some .null) (fun h => by rw [Bd.returns] at h; cases h)
  refine ⟨_, _, pre0 _ ?_, hrun, hended, _, _, rfl, ?_, ⟨_, rfl⟩, hW, hsame.mono (by decide) (by decide)⟩
  -- 4. STEPS
  · show Steps p.tables e below (s₁.setTop (mkF m 0 #[.val (.ref a1)] [])) _
    refine XS.aloadN X0.here hx rfl (hb hby d2_0) rfl rfl ?_
    show Steps p.tables e below (s₁.setTop (mkF m 1 #[.val (.ref a1)] [(.ref a1)])) _
    refine st3 _ ?_
    show Steps p.tables e below (T3.setTop (mkF m 4 #[.val (.ref a1)] [.null])) _
    jvm_step X3.here [X3.here.top, hx, (hb hby d2_4), X3.method', Bd.returns, Value.isRef, FieldType.isReference]
    first | (intro acts; rw [hr _ acts rfl rfl rfl]) | rw [hr _ _ rfl rfl rfl]
    exact Steps.refl _
  · show Q2_n_o Z a1 h0 n0 _ T3.heap _
    rw [e3]
    exact ⟨rfl, N0, rfl⟩
def P2 (Z : State) (h0 : Heap) (a1 : Addr) (r : Option Value) : Prop := (∃ (w2 : Addr), (Fld Z h0 a1 "com/example/indexwright/indexwright/sql/ColumnType" "element" "Lcom/example/indexwright/indexwright/sql/ColumnType;" (.ref w2)) ∧ r = some (.ref w2)) ∨ ((Fld Z h0 a1 "com/example/indexwright/indexwright/sql/ColumnType" "element" "Lcom/example/indexwright/indexwright/sql/ColumnType;" .null) ∧ r = some .null)
set_option maxRecDepth 65536 in
set_option maxHeartbeats 40000000 in
theorem own_2 (l : Launch) (Z : State) (a0 : Array Value) (hw : ∀ d ∈ tables_1, d.before a0 Z = true) (ws : List Jvm.Cond) (a1 : Addr) (r : Option Value) (h0 : Heap) (n0 : Nat) (Z0 : n0 ≤ h0.size) (hp : P2 Z h0 a1 r) :
    MetFree l (⟨"com/example/indexwright/indexwright/sql/ColumnType", "element", "()Lcom/example/indexwright/indexwright/sql/ColumnType;"⟩ : MethodName) (head1 (Jvm.Cond.code (⟨"com/example/indexwright/indexwright/sql/ColumnType", "element", "()Lcom/example/indexwright/indexwright/sql/ColumnType;"⟩ : MethodName) prog_54_method_4_code 1 (some (.object "com/example/indexwright/indexwright/sql/ColumnType")) :: ws) ({ frames := 0, cells := 0, slots := 0, locals := 0 } : Room)) (fun a U => a = #[(.ref a1)] ∧ Z.Warmed39 U.vm ∧ U.heap = h0) (fun _ _ _ _ _ => True) (fun _ U o U' => ∃ v L, o = .returned v ∧ OwnQ r h0 n0 v U'.heap L ∧ FrameEnd U o U' L ({ frames := 0, cells := 0, slots := 0, locals := 0 } : Room).cells ({ frames := 0, cells := 0, slots := 0, locals := 0 } : Room).slots) := by
  rcases hp with ⟨w2, k0, rfl⟩ | ⟨k0, rfl⟩
  · exact rm2_o l Z a0 hw ws a1 w2 h0 n0 Z0 k0
  · exact rm2_n_o l Z a0 hw ws a1 h0 n0 Z0 k0
theorem pn_0 : plainName "com/example/indexwright/indexwright/sql/ColumnTypeIsArrayPinLaw" = true := by first | (simp [plainName, overriddenIn]; done) | decide +kernel
theorem pd_0_0 : parseMethodDescriptor "()Z" = some ⟨[], some .boolean⟩ := by decide +kernel
theorem pd_0_1 : parseMethodDescriptor "()Lcom/example/indexwright/indexwright/sql/ColumnType;" = some ⟨[], some (.object "com/example/indexwright/indexwright/sql/ColumnType")⟩ := by decide +kernel
theorem ef_0 (m : MethodId) (x0 : Int32) : entryFrame m #[(.int x0)] maxLocals = mkF m 0 #[.val (.int x0), .unset, .unset, .unset, .unset] [] := by first | (simp [entryFrame, mkF, argsToLocals, Value.category, maxLocals]; done) | rfl
def Q0_n101_fftf (Z : State) (p1 : Int32) (w2 : Addr) (h0 : Heap) (n0 : Nat) (v : Option Value) (h : Heap) (L : List Loc) : Prop := v = some (.int (1 : Int32)) ∧ Fr n0 L
set_option maxRecDepth 65536 in
set_option maxHeartbeats 40000000 in
theorem rm0_n101_fftf (l : Launch) (Z : State) (a0 : Array Value) (hw : ∀ d ∈ tables_1, d.before a0 Z = true) (ws : List Jvm.Cond) (p1 : Int32) (w2 : Addr) (r4 : Int32) (h0 : Heap) (n0 : Nat) (Z0 : n0 ≤ h0.size) (S_BIGINT : Sta Z h0 "com/example/indexwright/indexwright/sql/ColumnType" "BIGINT" "Lcom/example/indexwright/indexwright/sql/ColumnType;" (.ref w2)) (E_w2 : Exa Z h0 w2 "com/example/indexwright/indexwright/sql/ColumnType") (hc9 : ((p1 &&& (2147483647 : Int32)) % (6 : Int32)) = (0 : Int32)) (hP4 : P1 Z h0 w2 (some (.int r4))) (hP5 : P2 Z h0 w2 (some .null)) (hx1 : r4 = (0 : Int32)) (hx2 : r4 = (0 : Int32)) :
    MetFree l x (head1 (Jvm.Cond.code x code maxLocals ret :: ws) room_1) (fun a U => a = #[(.int p1)] ∧ Z.Warmed39 U.vm ∧ U.heap = h0) (fun _ _ _ _ _ => True) (fun _ U o U' => ∃ v L, o = .returned v ∧ Q0_n101_fftf Z p1 w2 h0 n0 v U'.heap L ∧ FrameEnd U o U' L room_1.cells room_1.slots) := by
  refine MetFree.of_bodySF (plainFor_of_name pn_0) hisR ?_
  intro p e s m args below meth c s₁ Bd hml0 hP hK
  obtain ⟨rfl, hZ, hh⟩ := hP
  have hx := Bd.exec
  have hby := Bd.bytes
  have hml : c.maxLocals = 5 := hml0
  have hown : s.vm.findClass "com/example/indexwright/indexwright/sql/ColumnTypeIsArrayPinLaw" = some m.cls := findClass_of_methodNamed Bd.named
  have hnm := (name_of_methodNamed Bd.named Bd.method).1
  have X0 : Stand p l e room_1 s m #[(.int p1)] below meth c s₁ [] 0 0 := Stand.of_body Bd
  have e0 : s₁.heap = h0 := by rw [← hh, Bd.state]; rfl
  have N0 := Fr.nil n0
  have pre0 : ∀ t, Steps p.tables e below (s₁.setTop (mkF m 0 #[.val (.int p1), .unset, .unset, .unset, .unset] [])) t → Steps p.tables e below (s₁.setTop (entryFrame m #[(.int p1)] maxLocals)) t := fun t k => castTop (ef_0 m p1) k
  -- 3. LAWS
  obtain ⟨T3, X3, e3, st3⟩ := getS2 X0 hx hZ hown (host := "") (Or.inl (hw _ (List.mem_of_getElem? (i := 1) rfl))) Via.refl e0 S_BIGINT (g := (mkF m 12 #[.val (.int p1), .val (.int ((p1 &&& (2147483647 : Int32)) % (6 : Int32))), .unset, .unset, .unset] [])) rfl (hb hby at_12)
  -- pc 84: com/example/indexwright/indexwright/sql/ColumnType.isArray by the contract of the body that the receiver's class selects, rm1
  obtain ⟨cq4, kq4, q4a, q4b, q4c⟩ := isOf hZ e3 E_w2
  obtain ⟨_, _, ⟨T4, L4, k4, n4⟩, -, X4, ⟨Lc4, hQ4, l4, y4, z4⟩, st4⟩ := X3.virtualBack hx (y := (⟨"com/example/indexwright/indexwright/sql/ColumnType", "isArray", "()Z"⟩ : MethodName)) (z := (⟨"com/example/indexwright/indexwright/sql/ColumnType", "isArray", "()Z"⟩ : MethodName)) hown (mvT hZ (hw _ (List.mem_of_getElem? (i := 4) rfl))) (mvT hZ (hw _ (List.mem_of_getElem? (i := 5) rfl))) (notFace_of_selects (args := #[]) (mvT hZ (hw _ (List.mem_of_getElem? (i := 7) rfl)))) (mvT hZ (hw _ (List.mem_of_getElem? (i := 7) rfl))) (mvT hZ (hw _ (List.mem_of_getElem? (i := 6) rfl))) (by decide) (backOf (W := 0) (own_1 l Z a0 hw [] w2 (some (.int r4)) h0 n0 Z0 hP4) hZ (hw _ (List.mem_of_getElem? (i := 8) rfl)) (hw _ (List.mem_of_getElem? (i := 2) rfl)) (by decide) (by decide)) q4a q4c (g := (mkF m 84 #[.val (.int p1), .val (.int ((p1 &&& (2147483647 : Int32)) % (6 : Int32))), .val (.ref w2), .val (.int (0 : Int32)), .unset] [(.ref w2)])) rfl (by rw [hml]; rfl) (Steps.refl _) (argsL := []) (rest := []) (lenOf pd_0_0 rfl) rfl (by show 2 * 0 + _ ≤ _; exact Nat.le_of_eq rfl) (hb hby at_84) (fun _ _ => ⟨rfl, e3, (by decide : 0 + 0 ≤ _), (by decide : 0 + 0 ≤ _)⟩)
  dsimp only [Pt.U, Pt.locs, Pt.cells, Pt.slots] at X4 l4 y4 z4 st4 hQ4
  subst l4 y4 z4
  obtain ⟨rfl, N4q, e4⟩ := hQ4      -- what it returned, that it wrote nothing old, and the rest of your Q1
  have N4 := Fr.app N0 N4q
  -- pc 98: com/example/indexwright/indexwright/sql/ColumnType.element by the contract of the body that the receiver's class selects, rm2
  obtain ⟨cq5, kq5, q5a, q5b, q5c⟩ := isOf hZ e4 E_w2
  obtain ⟨_, _, ⟨T5, L5, k5, n5⟩, -, X5, ⟨Lc5, hQ5, l5, y5, z5⟩, st5⟩ := X4.virtualBack hx (y := (⟨"com/example/indexwright/indexwright/sql/ColumnType", "element", "()Lcom/example/indexwright/indexwright/sql/ColumnType;"⟩ : MethodName)) (z := (⟨"com/example/indexwright/indexwright/sql/ColumnType", "element", "()Lcom/example/indexwright/indexwright/sql/ColumnType;"⟩ : MethodName)) hown (mvT hZ (hw _ (List.mem_of_getElem? (i := 11) rfl))) (mvT hZ (hw _ (List.mem_of_getElem? (i := 12) rfl))) (notFace_of_selects (args := #[]) (mvT hZ (hw _ (List.mem_of_getElem? (i := 14) rfl)))) (mvT hZ (hw _ (List.mem_of_getElem? (i := 14) rfl))) (mvT hZ (hw _ (List.mem_of_getElem? (i := 13) rfl))) (by decide) (backOf (W := 1) (own_2 l Z a0 hw [] w2 (some .null) h0 n0 Z0 hP5) hZ (hw _ (List.mem_of_getElem? (i := 15) rfl)) (hw _ (List.mem_of_getElem? (i := 2) rfl)) (by decide) (by decide)) q5a q5c (g := (mkF m 98 #[.val (.int p1), .val (.int ((p1 &&& (2147483647 : Int32)) % (6 : Int32))), .val (.ref w2), .val (.int (0 : Int32)), .val (.int r4)] [(.ref w2), (.int r4)])) rfl (by rw [hml]; rfl) (Steps.refl _) (argsL := []) (rest := [(.int r4)]) (lenOf pd_0_1 rfl) rfl (by show 2 * 0 + _ ≤ _; exact Nat.le_of_eq rfl) (hb hby at_98) (fun _ _ => ⟨rfl, e4, (by decide : 0 + 0 ≤ _), (by decide : 0 + 0 ≤ _)⟩)
  dsimp only [Pt.U, Pt.locs, Pt.cells, Pt.slots] at X5 l5 y5 z5 st5 hQ5
  subst l5 y5 z5
  obtain ⟨rfl, N5q, e5⟩ := hQ5      -- what it returned, that it wrote nothing old, and the rest of your Q2
  have N5 := Fr.app N4 N5q
  obtain ⟨fs, hr, hrun, hended, hW, hsame⟩ := X5.leave (v := some (.int (1 : Int32))) (fun h => by rw [Bd.returns] at h; cases h)
  refine ⟨_, _, pre0 _ ?_, hrun, hended, _, _, rfl, ?_, ⟨_, rfl⟩, hW, hsame.mono (by decide) (by decide)⟩
  -- 4. STEPS
  · show Steps p.tables e below (s₁.setTop (mkF m 0 #[.val (.int p1), .unset, .unset, .unset, .unset] [])) _
    refine XS.iloadN X0.here hx rfl (hb hby at_0) rfl ?_
    show Steps p.tables e below (s₁.setTop (mkF m 1 #[.val (.int p1), .unset, .unset, .unset, .unset] [(.int p1)])) _
    refine X0.ldcInt hx hown (mvT hZ (hw _ (List.mem_of_getElem? (i := 0) rfl))) (g := (mkF m 1 #[.val (.int p1), .unset, .unset, .unset, .unset] [(.int p1)])) rfl (hb hby at_1) _ ?_
    show Steps p.tables e below (s₁.setTop (mkF m 3 #[.val (.int p1), .unset, .unset, .unset, .unset] [(.int (2147483647 : Int32)), (.int p1)])) _
    refine XS.iand X0.here hx rfl (hb hby at_3) rfl ?_
    show Steps p.tables e below (s₁.setTop (mkF m 4 #[.val (.int p1), .unset, .unset, .unset, .unset] [(.int (p1 &&& (2147483647 : Int32)))])) _
    refine XS.bipush X0.here hx rfl (hb hby at_4) ?_
    show Steps p.tables e below (s₁.setTop (mkF m 6 #[.val (.int p1), .unset, .unset, .unset, .unset] [(.int (6 : Int32)), (.int (p1 &&& (2147483647 : Int32)))])) _
    refine Jvm.RoadKit.iremM X0 hx rfl (hb hby at_6) rfl (by decide) ?_
    show Steps p.tables e below (s₁.setTop (mkF m 7 #[.val (.int p1), .unset, .unset, .unset, .unset] [(.int ((p1 &&& (2147483647 : Int32)) % (6 : Int32)))])) _
    refine XS.istoreN X0.here hx rfl (hb hby at_7) rfl (l' := #[.val (.int p1), .val (.int ((p1 &&& (2147483647 : Int32)) % (6 : Int32))), .unset, .unset, .unset]) rfl ?_
    show Steps p.tables e below (s₁.setTop (mkF m 8 #[.val (.int p1), .val (.int ((p1 &&& (2147483647 : Int32)) % (6 : Int32))), .unset, .unset, .unset] [])) _
    refine XS.iloadN X0.here hx rfl (hb hby at_8) rfl ?_
    show Steps p.tables e below (s₁.setTop (mkF m 9 #[.val (.int p1), .val (.int ((p1 &&& (2147483647 : Int32)) % (6 : Int32))), .unset, .unset, .unset] [(.int ((p1 &&& (2147483647 : Int32)) % (6 : Int32)))])) _
    refine XS.ifNo X0.here hx rfl (hb hby at_9) rfl ((if0 _ _).trans (teq hc9).2) ?_
    show Steps p.tables e below (s₁.setTop (mkF m 12 #[.val (.int p1), .val (.int ((p1 &&& (2147483647 : Int32)) % (6 : Int32))), .unset, .unset, .unset] [])) _
    refine st3 _ ?_
    show Steps p.tables e below (T3.setTop (mkF m 15 #[.val (.int p1), .val (.int ((p1 &&& (2147483647 : Int32)) % (6 : Int32))), .unset, .unset, .unset] [(.ref w2)])) _
    refine XS.astoreN X3.here hx rfl (hb hby at_15) rfl rfl (l' := #[.val (.int p1), .val (.int ((p1 &&& (2147483647 : Int32)) % (6 : Int32))), .val (.ref w2), .unset, .unset]) rfl ?_
    show Steps p.tables e below (T3.setTop (mkF m 16 #[.val (.int p1), .val (.int ((p1 &&& (2147483647 : Int32)) % (6 : Int32))), .val (.ref w2), .unset, .unset] [])) _
    refine XS.iconst X3.here hx rfl (hb hby at_16) ?_
    show Steps p.tables e below (T3.setTop (mkF m 17 #[.val (.int p1), .val (.int ((p1 &&& (2147483647 : Int32)) % (6 : Int32))), .val (.ref w2), .unset, .unset] [(.int (0 : Int32))])) _
    refine XS.istoreN X3.here hx rfl (hb hby at_17) rfl (l' := #[.val (.int p1), .val (.int ((p1 &&& (2147483647 : Int32)) % (6 : Int32))), .val (.ref w2), .val (.int (0 : Int32)), .unset]) rfl ?_
    show Steps p.tables e below (T3.setTop (mkF m 18 #[.val (.int p1), .val (.int ((p1 &&& (2147483647 : Int32)) % (6 : Int32))), .val (.ref w2), .val (.int (0 : Int32)), .unset] [])) _
    refine XS.goto X3.here hx rfl (pc0 := 18) (pc' := 83) rfl (hb hby at_18) (by decide) (by decide) ?_
    show Steps p.tables e below (T3.setTop (mkF m 83 #[.val (.int p1), .val (.int ((p1 &&& (2147483647 : Int32)) % (6 : Int32))), .val (.ref w2), .val (.int (0 : Int32)), .unset] [])) _
    refine XS.aloadN X3.here hx rfl (hb hby at_83) rfl rfl ?_
    show Steps p.tables e below (T3.setTop (mkF m 84 #[.val (.int p1), .val (.int ((p1 &&& (2147483647 : Int32)) % (6 : Int32))), .val (.ref w2), .val (.int (0 : Int32)), .unset] [(.ref w2)])) _
    refine st4.trans ?_
    show Steps p.tables e below (T4.setTop (mkF m 87 #[.val (.int p1), .val (.int ((p1 &&& (2147483647 : Int32)) % (6 : Int32))), .val (.ref w2), .val (.int (0 : Int32)), .unset] [(.int r4)])) _
    refine XS.istore X4.here hx rfl (hb hby at_87) rfl (l' := #[.val (.int p1), .val (.int ((p1 &&& (2147483647 : Int32)) % (6 : Int32))), .val (.ref w2), .val (.int (0 : Int32)), .val (.int r4)]) rfl ?_
    show Steps p.tables e below (T4.setTop (mkF m 89 #[.val (.int p1), .val (.int ((p1 &&& (2147483647 : Int32)) % (6 : Int32))), .val (.ref w2), .val (.int (0 : Int32)), .val (.int r4)] [])) _
    refine XS.iload X4.here hx rfl (hb hby at_89) rfl ?_
    show Steps p.tables e below (T4.setTop (mkF m 91 #[.val (.int p1), .val (.int ((p1 &&& (2147483647 : Int32)) % (6 : Int32))), .val (.ref w2), .val (.int (0 : Int32)), .val (.int r4)] [(.int r4)])) _
    refine XS.iloadN X4.here hx rfl (hb hby at_91) rfl ?_
    show Steps p.tables e below (T4.setTop (mkF m 92 #[.val (.int p1), .val (.int ((p1 &&& (2147483647 : Int32)) % (6 : Int32))), .val (.ref w2), .val (.int (0 : Int32)), .val (.int r4)] [(.int (0 : Int32)), (.int r4)])) _
    refine XS.icmpNo X4.here hx rfl (hb hby at_92) rfl (teq hx1).2 ?_
    show Steps p.tables e below (T4.setTop (mkF m 95 #[.val (.int p1), .val (.int ((p1 &&& (2147483647 : Int32)) % (6 : Int32))), .val (.ref w2), .val (.int (0 : Int32)), .val (.int r4)] [])) _
    refine XS.iload X4.here hx rfl (hb hby at_95) rfl ?_
    show Steps p.tables e below (T4.setTop (mkF m 97 #[.val (.int p1), .val (.int ((p1 &&& (2147483647 : Int32)) % (6 : Int32))), .val (.ref w2), .val (.int (0 : Int32)), .val (.int r4)] [(.int r4)])) _
    refine XS.aloadN X4.here hx rfl (hb hby at_97) rfl rfl ?_
    show Steps p.tables e below (T4.setTop (mkF m 98 #[.val (.int p1), .val (.int ((p1 &&& (2147483647 : Int32)) % (6 : Int32))), .val (.ref w2), .val (.int (0 : Int32)), .val (.int r4)] [(.ref w2), (.int r4)])) _
    refine st5.trans ?_
    show Steps p.tables e below (T5.setTop (mkF m 101 #[.val (.int p1), .val (.int ((p1 &&& (2147483647 : Int32)) % (6 : Int32))), .val (.ref w2), .val (.int (0 : Int32)), .val (.int r4)] [.null, (.int r4)])) _
    refine XS.ifnullYes X5.here hx rfl (pc0 := 101) (pc' := 108) rfl (hb hby at_101) rfl (by decide) (by decide) ?_
    show Steps p.tables e below (T5.setTop (mkF m 108 #[.val (.int p1), .val (.int ((p1 &&& (2147483647 : Int32)) % (6 : Int32))), .val (.ref w2), .val (.int (0 : Int32)), .val (.int r4)] [(.int r4)])) _
    refine XS.iconst X5.here hx rfl (hb hby at_108) ?_
    show Steps p.tables e below (T5.setTop (mkF m 109 #[.val (.int p1), .val (.int ((p1 &&& (2147483647 : Int32)) % (6 : Int32))), .val (.ref w2), .val (.int (0 : Int32)), .val (.int r4)] [(.int (0 : Int32)), (.int r4)])) _
    refine XS.icmpNo X5.here hx rfl (hb hby at_109) rfl (teq hx2).2 ?_
    show Steps p.tables e below (T5.setTop (mkF m 112 #[.val (.int p1), .val (.int ((p1 &&& (2147483647 : Int32)) % (6 : Int32))), .val (.ref w2), .val (.int (0 : Int32)), .val (.int r4)] [])) _
    refine XS.iconst X5.here hx rfl (hb hby at_112) ?_
    show Steps p.tables e below (T5.setTop (mkF m 113 #[.val (.int p1), .val (.int ((p1 &&& (2147483647 : Int32)) % (6 : Int32))), .val (.ref w2), .val (.int (0 : Int32)), .val (.int r4)] [(.int (1 : Int32))])) _
    refine XS.goto X5.here hx rfl (pc0 := 113) (pc' := 117) rfl (hb hby at_113) (by decide) (by decide) ?_
    show Steps p.tables e below (T5.setTop (mkF m 117 #[.val (.int p1), .val (.int ((p1 &&& (2147483647 : Int32)) % (6 : Int32))), .val (.ref w2), .val (.int (0 : Int32)), .val (.int r4)] [(.int (1 : Int32))])) _
    exact retN X5 hx (t := .boolean) Bd.returns (by simp) (hb hby at_117) hr
  · show Q0_n101_fftf Z p1 w2 h0 n0 _ T5.heap _
    exact ⟨rfl, N5⟩
def Q0_n101_tfftf (Z : State) (p1 : Int32) (w2 : Addr) (h0 : Heap) (n0 : Nat) (v : Option Value) (h : Heap) (L : List Loc) : Prop := v = some (.int (1 : Int32)) ∧ Fr n0 L
set_option maxRecDepth 65536 in
set_option maxHeartbeats 40000000 in
theorem rm0_n101_tfftf (l : Launch) (Z : State) (a0 : Array Value) (hw : ∀ d ∈ tables_1, d.before a0 Z = true) (ws : List Jvm.Cond) (p1 : Int32) (w2 : Addr) (r4 : Int32) (h0 : Heap) (n0 : Nat) (Z0 : n0 ≤ h0.size) (S_DOUBLE : Sta Z h0 "com/example/indexwright/indexwright/sql/ColumnType" "DOUBLE" "Lcom/example/indexwright/indexwright/sql/ColumnType;" (.ref w2)) (E_w2 : Exa Z h0 w2 "com/example/indexwright/indexwright/sql/ColumnType") (hc9 : ¬ (((p1 &&& (2147483647 : Int32)) % (6 : Int32)) = (0 : Int32))) (hc23 : ((p1 &&& (2147483647 : Int32)) % (6 : Int32)) = (1 : Int32)) (hP4 : P1 Z h0 w2 (some (.int r4))) (hP5 : P2 Z h0 w2 (some .null)) (hx1 : r4 = (0 : Int32)) (hx2 : r4 = (0 : Int32)) :
    MetFree l x (head1 (Jvm.Cond.code x code maxLocals ret :: ws) room_1) (fun a U => a = #[(.int p1)] ∧ Z.Warmed39 U.vm ∧ U.heap = h0) (fun _ _ _ _ _ => True) (fun _ U o U' => ∃ v L, o = .returned v ∧ Q0_n101_tfftf Z p1 w2 h0 n0 v U'.heap L ∧ FrameEnd U o U' L room_1.cells room_1.slots) := by
  refine MetFree.of_bodySF (plainFor_of_name pn_0) hisR ?_
  intro p e s m args below meth c s₁ Bd hml0 hP hK
  obtain ⟨rfl, hZ, hh⟩ := hP
  have hx := Bd.exec
  have hby := Bd.bytes
  have hml : c.maxLocals = 5 := hml0
  have hown : s.vm.findClass "com/example/indexwright/indexwright/sql/ColumnTypeIsArrayPinLaw" = some m.cls := findClass_of_methodNamed Bd.named
  have hnm := (name_of_methodNamed Bd.named Bd.method).1
  have X0 : Stand p l e room_1 s m #[(.int p1)] below meth c s₁ [] 0 0 := Stand.of_body Bd
  have e0 : s₁.heap = h0 := by rw [← hh, Bd.state]; rfl
  have N0 := Fr.nil n0
  have pre0 : ∀ t, Steps p.tables e below (s₁.setTop (mkF m 0 #[.val (.int p1), .unset, .unset, .unset, .unset] [])) t → Steps p.tables e below (s₁.setTop (entryFrame m #[(.int p1)] maxLocals)) t := fun t k => castTop (ef_0 m p1) k
  -- 3. LAWS
  obtain ⟨T3, X3, e3, st3⟩ := getS2 X0 hx hZ hown (host := "") (Or.inl (hw _ (List.mem_of_getElem? (i := 20) rfl))) Via.refl e0 S_DOUBLE (g := (mkF m 26 #[.val (.int p1), .val (.int ((p1 &&& (2147483647 : Int32)) % (6 : Int32))), .unset, .unset, .unset] [])) rfl (hb hby at_26)
  -- pc 84: com/example/indexwright/indexwright/sql/ColumnType.isArray by the contract of the body that the receiver's class selects, rm1
  obtain ⟨cq4, kq4, q4a, q4b, q4c⟩ := isOf hZ e3 E_w2
  obtain ⟨_, _, ⟨T4, L4, k4, n4⟩, -, X4, ⟨Lc4, hQ4, l4, y4, z4⟩, st4⟩ := X3.virtualBack hx (y := (⟨"com/example/indexwright/indexwright/sql/ColumnType", "isArray", "()Z"⟩ : MethodName)) (z := (⟨"com/example/indexwright/indexwright/sql/ColumnType", "isArray", "()Z"⟩ : MethodName)) hown (mvT hZ (hw _ (List.mem_of_getElem? (i := 4) rfl))) (mvT hZ (hw _ (List.mem_of_getElem? (i := 5) rfl))) (notFace_of_selects (args := #[]) (mvT hZ (hw _ (List.mem_of_getElem? (i := 7) rfl)))) (mvT hZ (hw _ (List.mem_of_getElem? (i := 7) rfl))) (mvT hZ (hw _ (List.mem_of_getElem? (i := 6) rfl))) (by decide) (backOf (W := 0) (own_1 l Z a0 hw [] w2 (some (.int r4)) h0 n0 Z0 hP4) hZ (hw _ (List.mem_of_getElem? (i := 8) rfl)) (hw _ (List.mem_of_getElem? (i := 2) rfl)) (by decide) (by decide)) q4a q4c (g := (mkF m 84 #[.val (.int p1), .val (.int ((p1 &&& (2147483647 : Int32)) % (6 : Int32))), .val (.ref w2), .val (.int (0 : Int32)), .unset] [(.ref w2)])) rfl (by rw [hml]; rfl) (Steps.refl _) (argsL := []) (rest := []) (lenOf pd_0_0 rfl) rfl (by show 2 * 0 + _ ≤ _; exact Nat.le_of_eq rfl) (hb hby at_84) (fun _ _ => ⟨rfl, e3, (by decide : 0 + 0 ≤ _), (by decide : 0 + 0 ≤ _)⟩)
  dsimp only [Pt.U, Pt.locs, Pt.cells, Pt.slots] at X4 l4 y4 z4 st4 hQ4
  subst l4 y4 z4
  obtain ⟨rfl, N4q, e4⟩ := hQ4      -- what it returned, that it wrote nothing old, and the rest of your Q1
  have N4 := Fr.app N0 N4q
  -- pc 98: com/example/indexwright/indexwright/sql/ColumnType.element by the contract of the body that the receiver's class selects, rm2
  obtain ⟨cq5, kq5, q5a, q5b, q5c⟩ := isOf hZ e4 E_w2
  obtain ⟨_, _, ⟨T5, L5, k5, n5⟩, -, X5, ⟨Lc5, hQ5, l5, y5, z5⟩, st5⟩ := X4.virtualBack hx (y := (⟨"com/example/indexwright/indexwright/sql/ColumnType", "element", "()Lcom/example/indexwright/indexwright/sql/ColumnType;"⟩ : MethodName)) (z := (⟨"com/example/indexwright/indexwright/sql/ColumnType", "element", "()Lcom/example/indexwright/indexwright/sql/ColumnType;"⟩ : MethodName)) hown (mvT hZ (hw _ (List.mem_of_getElem? (i := 11) rfl))) (mvT hZ (hw _ (List.mem_of_getElem? (i := 12) rfl))) (notFace_of_selects (args := #[]) (mvT hZ (hw _ (List.mem_of_getElem? (i := 14) rfl)))) (mvT hZ (hw _ (List.mem_of_getElem? (i := 14) rfl))) (mvT hZ (hw _ (List.mem_of_getElem? (i := 13) rfl))) (by decide) (backOf (W := 1) (own_2 l Z a0 hw [] w2 (some .null) h0 n0 Z0 hP5) hZ (hw _ (List.mem_of_getElem? (i := 15) rfl)) (hw _ (List.mem_of_getElem? (i := 2) rfl)) (by decide) (by decide)) q5a q5c (g := (mkF m 98 #[.val (.int p1), .val (.int ((p1 &&& (2147483647 : Int32)) % (6 : Int32))), .val (.ref w2), .val (.int (0 : Int32)), .val (.int r4)] [(.ref w2), (.int r4)])) rfl (by rw [hml]; rfl) (Steps.refl _) (argsL := []) (rest := [(.int r4)]) (lenOf pd_0_1 rfl) rfl (by show 2 * 0 + _ ≤ _; exact Nat.le_of_eq rfl) (hb hby at_98) (fun _ _ => ⟨rfl, e4, (by decide : 0 + 0 ≤ _), (by decide : 0 + 0 ≤ _)⟩)
  dsimp only [Pt.U, Pt.locs, Pt.cells, Pt.slots] at X5 l5 y5 z5 st5 hQ5
  subst l5 y5 z5
  obtain ⟨rfl, N5q, e5⟩ := hQ5      -- what it returned, that it wrote nothing old, and the rest of your Q2
  have N5 := Fr.app N4 N5q
  obtain ⟨fs, hr, hrun, hended, hW, hsame⟩ := X5.leave (v := some (.int (1 : Int32))) (fun h => by rw [Bd.returns] at h; cases h)
  refine ⟨_, _, pre0 _ ?_, hrun, hended, _, _, rfl, ?_, ⟨_, rfl⟩, hW, hsame.mono (by decide) (by decide)⟩
  -- 4. STEPS
  · show Steps p.tables e below (s₁.setTop (mkF m 0 #[.val (.int p1), .unset, .unset, .unset, .unset] [])) _
    refine XS.iloadN X0.here hx rfl (hb hby at_0) rfl ?_
    show Steps p.tables e below (s₁.setTop (mkF m 1 #[.val (.int p1), .unset, .unset, .unset, .unset] [(.int p1)])) _
    refine X0.ldcInt hx hown (mvT hZ (hw _ (List.mem_of_getElem? (i := 0) rfl))) (g := (mkF m 1 #[.val (.int p1), .unset, .unset, .unset, .unset] [(.int p1)])) rfl (hb hby at_1) _ ?_
    show Steps p.tables e below (s₁.setTop (mkF m 3 #[.val (.int p1), .unset, .unset, .unset, .unset] [(.int (2147483647 : Int32)), (.int p1)])) _
    refine XS.iand X0.here hx rfl (hb hby at_3) rfl ?_
    show Steps p.tables e below (s₁.setTop (mkF m 4 #[.val (.int p1), .unset, .unset, .unset, .unset] [(.int (p1 &&& (2147483647 : Int32)))])) _
    refine XS.bipush X0.here hx rfl (hb hby at_4) ?_
    show Steps p.tables e below (s₁.setTop (mkF m 6 #[.val (.int p1), .unset, .unset, .unset, .unset] [(.int (6 : Int32)), (.int (p1 &&& (2147483647 : Int32)))])) _
    refine Jvm.RoadKit.iremM X0 hx rfl (hb hby at_6) rfl (by decide) ?_
    show Steps p.tables e below (s₁.setTop (mkF m 7 #[.val (.int p1), .unset, .unset, .unset, .unset] [(.int ((p1 &&& (2147483647 : Int32)) % (6 : Int32)))])) _
    refine XS.istoreN X0.here hx rfl (hb hby at_7) rfl (l' := #[.val (.int p1), .val (.int ((p1 &&& (2147483647 : Int32)) % (6 : Int32))), .unset, .unset, .unset]) rfl ?_
    show Steps p.tables e below (s₁.setTop (mkF m 8 #[.val (.int p1), .val (.int ((p1 &&& (2147483647 : Int32)) % (6 : Int32))), .unset, .unset, .unset] [])) _
    refine XS.iloadN X0.here hx rfl (hb hby at_8) rfl ?_
    show Steps p.tables e below (s₁.setTop (mkF m 9 #[.val (.int p1), .val (.int ((p1 &&& (2147483647 : Int32)) % (6 : Int32))), .unset, .unset, .unset] [(.int ((p1 &&& (2147483647 : Int32)) % (6 : Int32)))])) _
    refine XS.ifYes X0.here hx rfl (pc0 := 9) (pc' := 21) rfl (hb hby at_9) rfl ((if0 _ _).trans (feq hc9).2) (by decide) (by decide) ?_
    show Steps p.tables e below (s₁.setTop (mkF m 21 #[.val (.int p1), .val (.int ((p1 &&& (2147483647 : Int32)) % (6 : Int32))), .unset, .unset, .unset] [])) _
    refine XS.iloadN X0.here hx rfl (hb hby at_21) rfl ?_
    show Steps p.tables e below (s₁.setTop (mkF m 22 #[.val (.int p1), .val (.int ((p1 &&& (2147483647 : Int32)) % (6 : Int32))), .unset, .unset, .unset] [(.int ((p1 &&& (2147483647 : Int32)) % (6 : Int32)))])) _
    refine XS.iconst X0.here hx rfl (hb hby at_22) ?_
    show Steps p.tables e below (s₁.setTop (mkF m 23 #[.val (.int p1), .val (.int ((p1 &&& (2147483647 : Int32)) % (6 : Int32))), .unset, .unset, .unset] [(.int (1 : Int32)), (.int ((p1 &&& (2147483647 : Int32)) % (6 : Int32)))])) _
    refine XS.icmpNo X0.here hx rfl (hb hby at_23) rfl (teq hc23).2 ?_
    show Steps p.tables e below (s₁.setTop (mkF m 26 #[.val (.int p1), .val (.int ((p1 &&& (2147483647 : Int32)) % (6 : Int32))), .unset, .unset, .unset] [])) _
    refine st3 _ ?_
    show Steps p.tables e below (T3.setTop (mkF m 29 #[.val (.int p1), .val (.int ((p1 &&& (2147483647 : Int32)) % (6 : Int32))), .unset, .unset, .unset] [(.ref w2)])) _
    refine XS.astoreN X3.here hx rfl (hb hby at_29) rfl rfl (l' := #[.val (.int p1), .val (.int ((p1 &&& (2147483647 : Int32)) % (6 : Int32))), .val (.ref w2), .unset, .unset]) rfl ?_
    show Steps p.tables e below (T3.setTop (mkF m 30 #[.val (.int p1), .val (.int ((p1 &&& (2147483647 : Int32)) % (6 : Int32))), .val (.ref w2), .unset, .unset] [])) _
    refine XS.iconst X3.here hx rfl (hb hby at_30) ?_
    show Steps p.tables e below (T3.setTop (mkF m 31 #[.val (.int p1), .val (.int ((p1 &&& (2147483647 : Int32)) % (6 : Int32))), .val (.ref w2), .unset, .unset] [(.int (0 : Int32))])) _
    refine XS.istoreN X3.here hx rfl (hb hby at_31) rfl (l' := #[.val (.int p1), .val (.int ((p1 &&& (2147483647 : Int32)) % (6 : Int32))), .val (.ref w2), .val (.int (0 : Int32)), .unset]) rfl ?_
    show Steps p.tables e below (T3.setTop (mkF m 32 #[.val (.int p1), .val (.int ((p1 &&& (2147483647 : Int32)) % (6 : Int32))), .val (.ref w2), .val (.int (0 : Int32)), .unset] [])) _
    refine XS.goto X3.here hx rfl (pc0 := 32) (pc' := 83) rfl (hb hby at_32) (by decide) (by decide) ?_
    show Steps p.tables e below (T3.setTop (mkF m 83 #[.val (.int p1), .val (.int ((p1 &&& (2147483647 : Int32)) % (6 : Int32))), .val (.ref w2), .val (.int (0 : Int32)), .unset] [])) _
    refine XS.aloadN X3.here hx rfl (hb hby at_83) rfl rfl ?_
    show Steps p.tables e below (T3.setTop (mkF m 84 #[.val (.int p1), .val (.int ((p1 &&& (2147483647 : Int32)) % (6 : Int32))), .val (.ref w2), .val (.int (0 : Int32)), .unset] [(.ref w2)])) _
    refine st4.trans ?_
    show Steps p.tables e below (T4.setTop (mkF m 87 #[.val (.int p1), .val (.int ((p1 &&& (2147483647 : Int32)) % (6 : Int32))), .val (.ref w2), .val (.int (0 : Int32)), .unset] [(.int r4)])) _
    refine XS.istore X4.here hx rfl (hb hby at_87) rfl (l' := #[.val (.int p1), .val (.int ((p1 &&& (2147483647 : Int32)) % (6 : Int32))), .val (.ref w2), .val (.int (0 : Int32)), .val (.int r4)]) rfl ?_
    show Steps p.tables e below (T4.setTop (mkF m 89 #[.val (.int p1), .val (.int ((p1 &&& (2147483647 : Int32)) % (6 : Int32))), .val (.ref w2), .val (.int (0 : Int32)), .val (.int r4)] [])) _
    refine XS.iload X4.here hx rfl (hb hby at_89) rfl ?_
    show Steps p.tables e below (T4.setTop (mkF m 91 #[.val (.int p1), .val (.int ((p1 &&& (2147483647 : Int32)) % (6 : Int32))), .val (.ref w2), .val (.int (0 : Int32)), .val (.int r4)] [(.int r4)])) _
    refine XS.iloadN X4.here hx rfl (hb hby at_91) rfl ?_
    show Steps p.tables e below (T4.setTop (mkF m 92 #[.val (.int p1), .val (.int ((p1 &&& (2147483647 : Int32)) % (6 : Int32))), .val (.ref w2), .val (.int (0 : Int32)), .val (.int r4)] [(.int (0 : Int32)), (.int r4)])) _
    refine XS.icmpNo X4.here hx rfl (hb hby at_92) rfl (teq hx1).2 ?_
    show Steps p.tables e below (T4.setTop (mkF m 95 #[.val (.int p1), .val (.int ((p1 &&& (2147483647 : Int32)) % (6 : Int32))), .val (.ref w2), .val (.int (0 : Int32)), .val (.int r4)] [])) _
    refine XS.iload X4.here hx rfl (hb hby at_95) rfl ?_
    show Steps p.tables e below (T4.setTop (mkF m 97 #[.val (.int p1), .val (.int ((p1 &&& (2147483647 : Int32)) % (6 : Int32))), .val (.ref w2), .val (.int (0 : Int32)), .val (.int r4)] [(.int r4)])) _
    refine XS.aloadN X4.here hx rfl (hb hby at_97) rfl rfl ?_
    show Steps p.tables e below (T4.setTop (mkF m 98 #[.val (.int p1), .val (.int ((p1 &&& (2147483647 : Int32)) % (6 : Int32))), .val (.ref w2), .val (.int (0 : Int32)), .val (.int r4)] [(.ref w2), (.int r4)])) _
    refine st5.trans ?_
    show Steps p.tables e below (T5.setTop (mkF m 101 #[.val (.int p1), .val (.int ((p1 &&& (2147483647 : Int32)) % (6 : Int32))), .val (.ref w2), .val (.int (0 : Int32)), .val (.int r4)] [.null, (.int r4)])) _
    refine XS.ifnullYes X5.here hx rfl (pc0 := 101) (pc' := 108) rfl (hb hby at_101) rfl (by decide) (by decide) ?_
    show Steps p.tables e below (T5.setTop (mkF m 108 #[.val (.int p1), .val (.int ((p1 &&& (2147483647 : Int32)) % (6 : Int32))), .val (.ref w2), .val (.int (0 : Int32)), .val (.int r4)] [(.int r4)])) _
    refine XS.iconst X5.here hx rfl (hb hby at_108) ?_
    show Steps p.tables e below (T5.setTop (mkF m 109 #[.val (.int p1), .val (.int ((p1 &&& (2147483647 : Int32)) % (6 : Int32))), .val (.ref w2), .val (.int (0 : Int32)), .val (.int r4)] [(.int (0 : Int32)), (.int r4)])) _
    refine XS.icmpNo X5.here hx rfl (hb hby at_109) rfl (teq hx2).2 ?_
    show Steps p.tables e below (T5.setTop (mkF m 112 #[.val (.int p1), .val (.int ((p1 &&& (2147483647 : Int32)) % (6 : Int32))), .val (.ref w2), .val (.int (0 : Int32)), .val (.int r4)] [])) _
    refine XS.iconst X5.here hx rfl (hb hby at_112) ?_
    show Steps p.tables e below (T5.setTop (mkF m 113 #[.val (.int p1), .val (.int ((p1 &&& (2147483647 : Int32)) % (6 : Int32))), .val (.ref w2), .val (.int (0 : Int32)), .val (.int r4)] [(.int (1 : Int32))])) _
    refine XS.goto X5.here hx rfl (pc0 := 113) (pc' := 117) rfl (hb hby at_113) (by decide) (by decide) ?_
    show Steps p.tables e below (T5.setTop (mkF m 117 #[.val (.int p1), .val (.int ((p1 &&& (2147483647 : Int32)) % (6 : Int32))), .val (.ref w2), .val (.int (0 : Int32)), .val (.int r4)] [(.int (1 : Int32))])) _
    exact retN X5 hx (t := .boolean) Bd.returns (by simp) (hb hby at_117) hr
  · show Q0_n101_tfftf Z p1 w2 h0 n0 _ T5.heap _
    exact ⟨rfl, N5⟩
def Q0_n101_ttfftf (Z : State) (p1 : Int32) (w2 : Addr) (h0 : Heap) (n0 : Nat) (v : Option Value) (h : Heap) (L : List Loc) : Prop := v = some (.int (1 : Int32)) ∧ Fr n0 L
set_option maxRecDepth 65536 in
set_option maxHeartbeats 40000000 in
theorem rm0_n101_ttfftf (l : Launch) (Z : State) (a0 : Array Value) (hw : ∀ d ∈ tables_1, d.before a0 Z = true) (ws : List Jvm.Cond) (p1 : Int32) (w2 : Addr) (r4 : Int32) (h0 : Heap) (n0 : Nat) (Z0 : n0 ≤ h0.size) (S_VARCHAR : Sta Z h0 "com/example/indexwright/indexwright/sql/ColumnType" "VARCHAR" "Lcom/example/indexwright/indexwright/sql/ColumnType;" (.ref w2)) (E_w2 : Exa Z h0 w2 "com/example/indexwright/indexwright/sql/ColumnType") (hc9 : ¬ (((p1 &&& (2147483647 : Int32)) % (6 : Int32)) = (0 : Int32))) (hc23 : ¬ (((p1 &&& (2147483647 : Int32)) % (6 : Int32)) = (1 : Int32))) (hc37 : ((p1 &&& (2147483647 : Int32)) % (6 : Int32)) = (2 : Int32)) (hP4 : P1 Z h0 w2 (some (.int r4))) (hP5 : P2 Z h0 w2 (some .null)) (hx1 : r4 = (0 : Int32)) (hx2 : r4 = (0 : Int32)) :
    MetFree l x (head1 (Jvm.Cond.code x code maxLocals ret :: ws) room_1) (fun a U => a = #[(.int p1)] ∧ Z.Warmed39 U.vm ∧ U.heap = h0) (fun _ _ _ _ _ => True) (fun _ U o U' => ∃ v L, o = .returned v ∧ Q0_n101_ttfftf Z p1 w2 h0 n0 v U'.heap L ∧ FrameEnd U o U' L room_1.cells room_1.slots) := by
  refine MetFree.of_bodySF (plainFor_of_name pn_0) hisR ?_
  intro p e s m args below meth c s₁ Bd hml0 hP hK
  obtain ⟨rfl, hZ, hh⟩ := hP
  have hx := Bd.exec
  have hby := Bd.bytes
  have hml : c.maxLocals = 5 := hml0
  have hown : s.vm.findClass "com/example/indexwright/indexwright/sql/ColumnTypeIsArrayPinLaw" = some m.cls := findClass_of_methodNamed Bd.named
  have hnm := (name_of_methodNamed Bd.named Bd.method).1
  have X0 : Stand p l e room_1 s m #[(.int p1)] below meth c s₁ [] 0 0 := Stand.of_body Bd
  have e0 : s₁.heap = h0 := by rw [← hh, Bd.state]; rfl
  have N0 := Fr.nil n0
  have pre0 : ∀ t, Steps p.tables e below (s₁.setTop (mkF m 0 #[.val (.int p1), .unset, .unset, .unset, .unset] [])) t → Steps p.tables e below (s₁.setTop (entryFrame m #[(.int p1)] maxLocals)) t := fun t k => castTop (ef_0 m p1) k
  -- 3. LAWS
  obtain ⟨T3, X3, e3, st3⟩ := getS2 X0 hx hZ hown (host := "") (Or.inl (hw _ (List.mem_of_getElem? (i := 18) rfl))) Via.refl e0 S_VARCHAR (g := (mkF m 40 #[.val (.int p1), .val (.int ((p1 &&& (2147483647 : Int32)) % (6 : Int32))), .unset, .unset, .unset] [])) rfl (hb hby at_40)
  -- pc 84: com/example/indexwright/indexwright/sql/ColumnType.isArray by the contract of the body that the receiver's class selects, rm1
  obtain ⟨cq4, kq4, q4a, q4b, q4c⟩ := isOf hZ e3 E_w2
  obtain ⟨_, _, ⟨T4, L4, k4, n4⟩, -, X4, ⟨Lc4, hQ4, l4, y4, z4⟩, st4⟩ := X3.virtualBack hx (y := (⟨"com/example/indexwright/indexwright/sql/ColumnType", "isArray", "()Z"⟩ : MethodName)) (z := (⟨"com/example/indexwright/indexwright/sql/ColumnType", "isArray", "()Z"⟩ : MethodName)) hown (mvT hZ (hw _ (List.mem_of_getElem? (i := 4) rfl))) (mvT hZ (hw _ (List.mem_of_getElem? (i := 5) rfl))) (notFace_of_selects (args := #[]) (mvT hZ (hw _ (List.mem_of_getElem? (i := 7) rfl)))) (mvT hZ (hw _ (List.mem_of_getElem? (i := 7) rfl))) (mvT hZ (hw _ (List.mem_of_getElem? (i := 6) rfl))) (by decide) (backOf (W := 0) (own_1 l Z a0 hw [] w2 (some (.int r4)) h0 n0 Z0 hP4) hZ (hw _ (List.mem_of_getElem? (i := 8) rfl)) (hw _ (List.mem_of_getElem? (i := 2) rfl)) (by decide) (by decide)) q4a q4c (g := (mkF m 84 #[.val (.int p1), .val (.int ((p1 &&& (2147483647 : Int32)) % (6 : Int32))), .val (.ref w2), .val (.int (0 : Int32)), .unset] [(.ref w2)])) rfl (by rw [hml]; rfl) (Steps.refl _) (argsL := []) (rest := []) (lenOf pd_0_0 rfl) rfl (by show 2 * 0 + _ ≤ _; exact Nat.le_of_eq rfl) (hb hby at_84) (fun _ _ => ⟨rfl, e3, (by decide : 0 + 0 ≤ _), (by decide : 0 + 0 ≤ _)⟩)
  dsimp only [Pt.U, Pt.locs, Pt.cells, Pt.slots] at X4 l4 y4 z4 st4 hQ4
  subst l4 y4 z4
  obtain ⟨rfl, N4q, e4⟩ := hQ4      -- what it returned, that it wrote nothing old, and the rest of your Q1
  have N4 := Fr.app N0 N4q
  -- pc 98: com/example/indexwright/indexwright/sql/ColumnType.element by the contract of the body that the receiver's class selects, rm2
  obtain ⟨cq5, kq5, q5a, q5b, q5c⟩ := isOf hZ e4 E_w2
  obtain ⟨_, _, ⟨T5, L5, k5, n5⟩, -, X5, ⟨Lc5, hQ5, l5, y5, z5⟩, st5⟩ := X4.virtualBack hx (y := (⟨"com/example/indexwright/indexwright/sql/ColumnType", "element", "()Lcom/example/indexwright/indexwright/sql/ColumnType;"⟩ : MethodName)) (z := (⟨"com/example/indexwright/indexwright/sql/ColumnType", "element", "()Lcom/example/indexwright/indexwright/sql/ColumnType;"⟩ : MethodName)) hown (mvT hZ (hw _ (List.mem_of_getElem? (i := 11) rfl))) (mvT hZ (hw _ (List.mem_of_getElem? (i := 12) rfl))) (notFace_of_selects (args := #[]) (mvT hZ (hw _ (List.mem_of_getElem? (i := 14) rfl)))) (mvT hZ (hw _ (List.mem_of_getElem? (i := 14) rfl))) (mvT hZ (hw _ (List.mem_of_getElem? (i := 13) rfl))) (by decide) (backOf (W := 1) (own_2 l Z a0 hw [] w2 (some .null) h0 n0 Z0 hP5) hZ (hw _ (List.mem_of_getElem? (i := 15) rfl)) (hw _ (List.mem_of_getElem? (i := 2) rfl)) (by decide) (by decide)) q5a q5c (g := (mkF m 98 #[.val (.int p1), .val (.int ((p1 &&& (2147483647 : Int32)) % (6 : Int32))), .val (.ref w2), .val (.int (0 : Int32)), .val (.int r4)] [(.ref w2), (.int r4)])) rfl (by rw [hml]; rfl) (Steps.refl _) (argsL := []) (rest := [(.int r4)]) (lenOf pd_0_1 rfl) rfl (by show 2 * 0 + _ ≤ _; exact Nat.le_of_eq rfl) (hb hby at_98) (fun _ _ => ⟨rfl, e4, (by decide : 0 + 0 ≤ _), (by decide : 0 + 0 ≤ _)⟩)
  dsimp only [Pt.U, Pt.locs, Pt.cells, Pt.slots] at X5 l5 y5 z5 st5 hQ5
  subst l5 y5 z5
  obtain ⟨rfl, N5q, e5⟩ := hQ5      -- what it returned, that it wrote nothing old, and the rest of your Q2
  have N5 := Fr.app N4 N5q
  obtain ⟨fs, hr, hrun, hended, hW, hsame⟩ := X5.leave (v := some (.int (1 : Int32))) (fun h => by rw [Bd.returns] at h; cases h)
  refine ⟨_, _, pre0 _ ?_, hrun, hended, _, _, rfl, ?_, ⟨_, rfl⟩, hW, hsame.mono (by decide) (by decide)⟩
  -- 4. STEPS
  · show Steps p.tables e below (s₁.setTop (mkF m 0 #[.val (.int p1), .unset, .unset, .unset, .unset] [])) _
    refine XS.iloadN X0.here hx rfl (hb hby at_0) rfl ?_
    show Steps p.tables e below (s₁.setTop (mkF m 1 #[.val (.int p1), .unset, .unset, .unset, .unset] [(.int p1)])) _
    refine X0.ldcInt hx hown (mvT hZ (hw _ (List.mem_of_getElem? (i := 0) rfl))) (g := (mkF m 1 #[.val (.int p1), .unset, .unset, .unset, .unset] [(.int p1)])) rfl (hb hby at_1) _ ?_
    show Steps p.tables e below (s₁.setTop (mkF m 3 #[.val (.int p1), .unset, .unset, .unset, .unset] [(.int (2147483647 : Int32)), (.int p1)])) _
    refine XS.iand X0.here hx rfl (hb hby at_3) rfl ?_
    show Steps p.tables e below (s₁.setTop (mkF m 4 #[.val (.int p1), .unset, .unset, .unset, .unset] [(.int (p1 &&& (2147483647 : Int32)))])) _
    refine XS.bipush X0.here hx rfl (hb hby at_4) ?_
    show Steps p.tables e below (s₁.setTop (mkF m 6 #[.val (.int p1), .unset, .unset, .unset, .unset] [(.int (6 : Int32)), (.int (p1 &&& (2147483647 : Int32)))])) _
    refine Jvm.RoadKit.iremM X0 hx rfl (hb hby at_6) rfl (by decide) ?_
    show Steps p.tables e below (s₁.setTop (mkF m 7 #[.val (.int p1), .unset, .unset, .unset, .unset] [(.int ((p1 &&& (2147483647 : Int32)) % (6 : Int32)))])) _
    refine XS.istoreN X0.here hx rfl (hb hby at_7) rfl (l' := #[.val (.int p1), .val (.int ((p1 &&& (2147483647 : Int32)) % (6 : Int32))), .unset, .unset, .unset]) rfl ?_
    show Steps p.tables e below (s₁.setTop (mkF m 8 #[.val (.int p1), .val (.int ((p1 &&& (2147483647 : Int32)) % (6 : Int32))), .unset, .unset, .unset] [])) _
    refine XS.iloadN X0.here hx rfl (hb hby at_8) rfl ?_
    show Steps p.tables e below (s₁.setTop (mkF m 9 #[.val (.int p1), .val (.int ((p1 &&& (2147483647 : Int32)) % (6 : Int32))), .unset, .unset, .unset] [(.int ((p1 &&& (2147483647 : Int32)) % (6 : Int32)))])) _
    refine XS.ifYes X0.here hx rfl (pc0 := 9) (pc' := 21) rfl (hb hby at_9) rfl ((if0 _ _).trans (feq hc9).2) (by decide) (by decide) ?_
    show Steps p.tables e below (s₁.setTop (mkF m 21 #[.val (.int p1), .val (.int ((p1 &&& (2147483647 : Int32)) % (6 : Int32))), .unset, .unset, .unset] [])) _
    refine XS.iloadN X0.here hx rfl (hb hby at_21) rfl ?_
    show Steps p.tables e below (s₁.setTop (mkF m 22 #[.val (.int p1), .val (.int ((p1 &&& (2147483647 : Int32)) % (6 : Int32))), .unset, .unset, .unset] [(.int ((p1 &&& (2147483647 : Int32)) % (6 : Int32)))])) _
    refine XS.iconst X0.here hx rfl (hb hby at_22) ?_
    show Steps p.tables e below (s₁.setTop (mkF m 23 #[.val (.int p1), .val (.int ((p1 &&& (2147483647 : Int32)) % (6 : Int32))), .unset, .unset, .unset] [(.int (1 : Int32)), (.int ((p1 &&& (2147483647 : Int32)) % (6 : Int32)))])) _
    refine XS.icmpYes X0.here hx rfl (pc0 := 23) (pc' := 35) rfl (hb hby at_23) rfl (feq hc23).2 (by decide) (by decide) ?_
    show Steps p.tables e below (s₁.setTop (mkF m 35 #[.val (.int p1), .val (.int ((p1 &&& (2147483647 : Int32)) % (6 : Int32))), .unset, .unset, .unset] [])) _
    refine XS.iloadN X0.here hx rfl (hb hby at_35) rfl ?_
    show Steps p.tables e below (s₁.setTop (mkF m 36 #[.val (.int p1), .val (.int ((p1 &&& (2147483647 : Int32)) % (6 : Int32))), .unset, .unset, .unset] [(.int ((p1 &&& (2147483647 : Int32)) % (6 : Int32)))])) _
    refine XS.iconst X0.here hx rfl (hb hby at_36) ?_
    show Steps p.tables e below (s₁.setTop (mkF m 37 #[.val (.int p1), .val (.int ((p1 &&& (2147483647 : Int32)) % (6 : Int32))), .unset, .unset, .unset] [(.int (2 : Int32)), (.int ((p1 &&& (2147483647 : Int32)) % (6 : Int32)))])) _
    refine XS.icmpNo X0.here hx rfl (hb hby at_37) rfl (teq hc37).2 ?_
    show Steps p.tables e below (s₁.setTop (mkF m 40 #[.val (.int p1), .val (.int ((p1 &&& (2147483647 : Int32)) % (6 : Int32))), .unset, .unset, .unset] [])) _
    refine st3 _ ?_
    show Steps p.tables e below (T3.setTop (mkF m 43 #[.val (.int p1), .val (.int ((p1 &&& (2147483647 : Int32)) % (6 : Int32))), .unset, .unset, .unset] [(.ref w2)])) _
    refine XS.astoreN X3.here hx rfl (hb hby at_43) rfl rfl (l' := #[.val (.int p1), .val (.int ((p1 &&& (2147483647 : Int32)) % (6 : Int32))), .val (.ref w2), .unset, .unset]) rfl ?_
    show Steps p.tables e below (T3.setTop (mkF m 44 #[.val (.int p1), .val (.int ((p1 &&& (2147483647 : Int32)) % (6 : Int32))), .val (.ref w2), .unset, .unset] [])) _
    refine XS.iconst X3.here hx rfl (hb hby at_44) ?_
    show Steps p.tables e below (T3.setTop (mkF m 45 #[.val (.int p1), .val (.int ((p1 &&& (2147483647 : Int32)) % (6 : Int32))), .val (.ref w2), .unset, .unset] [(.int (0 : Int32))])) _
    refine XS.istoreN X3.here hx rfl (hb hby at_45) rfl (l' := #[.val (.int p1), .val (.int ((p1 &&& (2147483647 : Int32)) % (6 : Int32))), .val (.ref w2), .val (.int (0 : Int32)), .unset]) rfl ?_
    show Steps p.tables e below (T3.setTop (mkF m 46 #[.val (.int p1), .val (.int ((p1 &&& (2147483647 : Int32)) % (6 : Int32))), .val (.ref w2), .val (.int (0 : Int32)), .unset] [])) _
    refine XS.goto X3.here hx rfl (pc0 := 46) (pc' := 83) rfl (hb hby at_46) (by decide) (by decide) ?_
    show Steps p.tables e below (T3.setTop (mkF m 83 #[.val (.int p1), .val (.int ((p1 &&& (2147483647 : Int32)) % (6 : Int32))), .val (.ref w2), .val (.int (0 : Int32)), .unset] [])) _
    refine XS.aloadN X3.here hx rfl (hb hby at_83) rfl rfl ?_
    show Steps p.tables e below (T3.setTop (mkF m 84 #[.val (.int p1), .val (.int ((p1 &&& (2147483647 : Int32)) % (6 : Int32))), .val (.ref w2), .val (.int (0 : Int32)), .unset] [(.ref w2)])) _
    refine st4.trans ?_
    show Steps p.tables e below (T4.setTop (mkF m 87 #[.val (.int p1), .val (.int ((p1 &&& (2147483647 : Int32)) % (6 : Int32))), .val (.ref w2), .val (.int (0 : Int32)), .unset] [(.int r4)])) _
    refine XS.istore X4.here hx rfl (hb hby at_87) rfl (l' := #[.val (.int p1), .val (.int ((p1 &&& (2147483647 : Int32)) % (6 : Int32))), .val (.ref w2), .val (.int (0 : Int32)), .val (.int r4)]) rfl ?_
    show Steps p.tables e below (T4.setTop (mkF m 89 #[.val (.int p1), .val (.int ((p1 &&& (2147483647 : Int32)) % (6 : Int32))), .val (.ref w2), .val (.int (0 : Int32)), .val (.int r4)] [])) _
    refine XS.iload X4.here hx rfl (hb hby at_89) rfl ?_
    show Steps p.tables e below (T4.setTop (mkF m 91 #[.val (.int p1), .val (.int ((p1 &&& (2147483647 : Int32)) % (6 : Int32))), .val (.ref w2), .val (.int (0 : Int32)), .val (.int r4)] [(.int r4)])) _
    refine XS.iloadN X4.here hx rfl (hb hby at_91) rfl ?_
    show Steps p.tables e below (T4.setTop (mkF m 92 #[.val (.int p1), .val (.int ((p1 &&& (2147483647 : Int32)) % (6 : Int32))), .val (.ref w2), .val (.int (0 : Int32)), .val (.int r4)] [(.int (0 : Int32)), (.int r4)])) _
    refine XS.icmpNo X4.here hx rfl (hb hby at_92) rfl (teq hx1).2 ?_
    show Steps p.tables e below (T4.setTop (mkF m 95 #[.val (.int p1), .val (.int ((p1 &&& (2147483647 : Int32)) % (6 : Int32))), .val (.ref w2), .val (.int (0 : Int32)), .val (.int r4)] [])) _
    refine XS.iload X4.here hx rfl (hb hby at_95) rfl ?_
    show Steps p.tables e below (T4.setTop (mkF m 97 #[.val (.int p1), .val (.int ((p1 &&& (2147483647 : Int32)) % (6 : Int32))), .val (.ref w2), .val (.int (0 : Int32)), .val (.int r4)] [(.int r4)])) _
    refine XS.aloadN X4.here hx rfl (hb hby at_97) rfl rfl ?_
    show Steps p.tables e below (T4.setTop (mkF m 98 #[.val (.int p1), .val (.int ((p1 &&& (2147483647 : Int32)) % (6 : Int32))), .val (.ref w2), .val (.int (0 : Int32)), .val (.int r4)] [(.ref w2), (.int r4)])) _
    refine st5.trans ?_
    show Steps p.tables e below (T5.setTop (mkF m 101 #[.val (.int p1), .val (.int ((p1 &&& (2147483647 : Int32)) % (6 : Int32))), .val (.ref w2), .val (.int (0 : Int32)), .val (.int r4)] [.null, (.int r4)])) _
    refine XS.ifnullYes X5.here hx rfl (pc0 := 101) (pc' := 108) rfl (hb hby at_101) rfl (by decide) (by decide) ?_
    show Steps p.tables e below (T5.setTop (mkF m 108 #[.val (.int p1), .val (.int ((p1 &&& (2147483647 : Int32)) % (6 : Int32))), .val (.ref w2), .val (.int (0 : Int32)), .val (.int r4)] [(.int r4)])) _
    refine XS.iconst X5.here hx rfl (hb hby at_108) ?_
    show Steps p.tables e below (T5.setTop (mkF m 109 #[.val (.int p1), .val (.int ((p1 &&& (2147483647 : Int32)) % (6 : Int32))), .val (.ref w2), .val (.int (0 : Int32)), .val (.int r4)] [(.int (0 : Int32)), (.int r4)])) _
    refine XS.icmpNo X5.here hx rfl (hb hby at_109) rfl (teq hx2).2 ?_
    show Steps p.tables e below (T5.setTop (mkF m 112 #[.val (.int p1), .val (.int ((p1 &&& (2147483647 : Int32)) % (6 : Int32))), .val (.ref w2), .val (.int (0 : Int32)), .val (.int r4)] [])) _
    refine XS.iconst X5.here hx rfl (hb hby at_112) ?_
    show Steps p.tables e below (T5.setTop (mkF m 113 #[.val (.int p1), .val (.int ((p1 &&& (2147483647 : Int32)) % (6 : Int32))), .val (.ref w2), .val (.int (0 : Int32)), .val (.int r4)] [(.int (1 : Int32))])) _
    refine XS.goto X5.here hx rfl (pc0 := 113) (pc' := 117) rfl (hb hby at_113) (by decide) (by decide) ?_
    show Steps p.tables e below (T5.setTop (mkF m 117 #[.val (.int p1), .val (.int ((p1 &&& (2147483647 : Int32)) % (6 : Int32))), .val (.ref w2), .val (.int (0 : Int32)), .val (.int r4)] [(.int (1 : Int32))])) _
    exact retN X5 hx (t := .boolean) Bd.returns (by simp) (hb hby at_117) hr
  · show Q0_n101_ttfftf Z p1 w2 h0 n0 _ T5.heap _
    exact ⟨rfl, N5⟩
def Q0_tttffff (Z : State) (p1 : Int32) (w2 : Addr) (h0 : Heap) (n0 : Nat) (v : Option Value) (h : Heap) (L : List Loc) : Prop := v = some (.int (1 : Int32)) ∧ Fr n0 L
set_option maxRecDepth 65536 in
set_option maxHeartbeats 40000000 in
theorem rm0_tttffff (l : Launch) (Z : State) (a0 : Array Value) (hw : ∀ d ∈ tables_1, d.before a0 Z = true) (ws : List Jvm.Cond) (p1 : Int32) (w2 : Addr) (r4 : Int32) (r5 : Addr) (h0 : Heap) (n0 : Nat) (Z0 : n0 ≤ h0.size) (S_BIGINT_ARRAY : Sta Z h0 "com/example/indexwright/indexwright/sql/ColumnType" "BIGINT_ARRAY" "Lcom/example/indexwright/indexwright/sql/ColumnType;" (.ref w2)) (E_w2 : Exa Z h0 w2 "com/example/indexwright/indexwright/sql/ColumnType") (hc9 : ¬ (((p1 &&& (2147483647 : Int32)) % (6 : Int32)) = (0 : Int32))) (hc23 : ¬ (((p1 &&& (2147483647 : Int32)) % (6 : Int32)) = (1 : Int32))) (hc37 : ¬ (((p1 &&& (2147483647 : Int32)) % (6 : Int32)) = (2 : Int32))) (hc51 : ((p1 &&& (2147483647 : Int32)) % (6 : Int32)) = (3 : Int32)) (hP4 : P1 Z h0 w2 (some (.int r4))) (hP5 : P2 Z h0 w2 (some (.ref r5))) (hx1 : r4 = (1 : Int32)) (hx2 : r4 = (1 : Int32)) :
    MetFree l x (head1 (Jvm.Cond.code x code maxLocals ret :: ws) room_1) (fun a U => a = #[(.int p1)] ∧ Z.Warmed39 U.vm ∧ U.heap = h0) (fun _ _ _ _ _ => True) (fun _ U o U' => ∃ v L, o = .returned v ∧ Q0_tttffff Z p1 w2 h0 n0 v U'.heap L ∧ FrameEnd U o U' L room_1.cells room_1.slots) := by
  refine MetFree.of_bodySF (plainFor_of_name pn_0) hisR ?_
  intro p e s m args below meth c s₁ Bd hml0 hP hK
  obtain ⟨rfl, hZ, hh⟩ := hP
  have hx := Bd.exec
  have hby := Bd.bytes
  have hml : c.maxLocals = 5 := hml0
  have hown : s.vm.findClass "com/example/indexwright/indexwright/sql/ColumnTypeIsArrayPinLaw" = some m.cls := findClass_of_methodNamed Bd.named
  have hnm := (name_of_methodNamed Bd.named Bd.method).1
  have X0 : Stand p l e room_1 s m #[(.int p1)] below meth c s₁ [] 0 0 := Stand.of_body Bd
  have e0 : s₁.heap = h0 := by rw [← hh, Bd.state]; rfl
  have N0 := Fr.nil n0
  have pre0 : ∀ t, Steps p.tables e below (s₁.setTop (mkF m 0 #[.val (.int p1), .unset, .unset, .unset, .unset] [])) t → Steps p.tables e below (s₁.setTop (entryFrame m #[(.int p1)] maxLocals)) t := fun t k => castTop (ef_0 m p1) k
  -- 3. LAWS
  obtain ⟨T3, X3, e3, st3⟩ := getS2 X0 hx hZ hown (host := "") (Or.inl (hw _ (List.mem_of_getElem? (i := 16) rfl))) Via.refl e0 S_BIGINT_ARRAY (g := (mkF m 54 #[.val (.int p1), .val (.int ((p1 &&& (2147483647 : Int32)) % (6 : Int32))), .unset, .unset, .unset] [])) rfl (hb hby at_54)
  -- pc 84: com/example/indexwright/indexwright/sql/ColumnType.isArray by the contract of the body that the receiver's class selects, rm1
  obtain ⟨cq4, kq4, q4a, q4b, q4c⟩ := isOf hZ e3 E_w2
  obtain ⟨_, _, ⟨T4, L4, k4, n4⟩, -, X4, ⟨Lc4, hQ4, l4, y4, z4⟩, st4⟩ := X3.virtualBack hx (y := (⟨"com/example/indexwright/indexwright/sql/ColumnType", "isArray", "()Z"⟩ : MethodName)) (z := (⟨"com/example/indexwright/indexwright/sql/ColumnType", "isArray", "()Z"⟩ : MethodName)) hown (mvT hZ (hw _ (List.mem_of_getElem? (i := 4) rfl))) (mvT hZ (hw _ (List.mem_of_getElem? (i := 5) rfl))) (notFace_of_selects (args := #[]) (mvT hZ (hw _ (List.mem_of_getElem? (i := 7) rfl)))) (mvT hZ (hw _ (List.mem_of_getElem? (i := 7) rfl))) (mvT hZ (hw _ (List.mem_of_getElem? (i := 6) rfl))) (by decide) (backOf (W := 0) (own_1 l Z a0 hw [] w2 (some (.int r4)) h0 n0 Z0 hP4) hZ (hw _ (List.mem_of_getElem? (i := 8) rfl)) (hw _ (List.mem_of_getElem? (i := 2) rfl)) (by decide) (by decide)) q4a q4c (g := (mkF m 84 #[.val (.int p1), .val (.int ((p1 &&& (2147483647 : Int32)) % (6 : Int32))), .val (.ref w2), .val (.int (1 : Int32)), .unset] [(.ref w2)])) rfl (by rw [hml]; rfl) (Steps.refl _) (argsL := []) (rest := []) (lenOf pd_0_0 rfl) rfl (by show 2 * 0 + _ ≤ _; exact Nat.le_of_eq rfl) (hb hby at_84) (fun _ _ => ⟨rfl, e3, (by decide : 0 + 0 ≤ _), (by decide : 0 + 0 ≤ _)⟩)
  dsimp only [Pt.U, Pt.locs, Pt.cells, Pt.slots] at X4 l4 y4 z4 st4 hQ4
  subst l4 y4 z4
  obtain ⟨rfl, N4q, e4⟩ := hQ4      -- what it returned, that it wrote nothing old, and the rest of your Q1
  have N4 := Fr.app N0 N4q
  -- pc 98: com/example/indexwright/indexwright/sql/ColumnType.element by the contract of the body that the receiver's class selects, rm2
  obtain ⟨cq5, kq5, q5a, q5b, q5c⟩ := isOf hZ e4 E_w2
  obtain ⟨_, _, ⟨T5, L5, k5, n5⟩, -, X5, ⟨Lc5, hQ5, l5, y5, z5⟩, st5⟩ := X4.virtualBack hx (y := (⟨"com/example/indexwright/indexwright/sql/ColumnType", "element", "()Lcom/example/indexwright/indexwright/sql/ColumnType;"⟩ : MethodName)) (z := (⟨"com/example/indexwright/indexwright/sql/ColumnType", "element", "()Lcom/example/indexwright/indexwright/sql/ColumnType;"⟩ : MethodName)) hown (mvT hZ (hw _ (List.mem_of_getElem? (i := 11) rfl))) (mvT hZ (hw _ (List.mem_of_getElem? (i := 12) rfl))) (notFace_of_selects (args := #[]) (mvT hZ (hw _ (List.mem_of_getElem? (i := 14) rfl)))) (mvT hZ (hw _ (List.mem_of_getElem? (i := 14) rfl))) (mvT hZ (hw _ (List.mem_of_getElem? (i := 13) rfl))) (by decide) (backOf (W := 1) (own_2 l Z a0 hw [] w2 (some (.ref r5)) h0 n0 Z0 hP5) hZ (hw _ (List.mem_of_getElem? (i := 15) rfl)) (hw _ (List.mem_of_getElem? (i := 2) rfl)) (by decide) (by decide)) q5a q5c (g := (mkF m 98 #[.val (.int p1), .val (.int ((p1 &&& (2147483647 : Int32)) % (6 : Int32))), .val (.ref w2), .val (.int (1 : Int32)), .val (.int r4)] [(.ref w2), (.int r4)])) rfl (by rw [hml]; rfl) (Steps.refl _) (argsL := []) (rest := [(.int r4)]) (lenOf pd_0_1 rfl) rfl (by show 2 * 0 + _ ≤ _; exact Nat.le_of_eq rfl) (hb hby at_98) (fun _ _ => ⟨rfl, e4, (by decide : 0 + 0 ≤ _), (by decide : 0 + 0 ≤ _)⟩)
  dsimp only [Pt.U, Pt.locs, Pt.cells, Pt.slots] at X5 l5 y5 z5 st5 hQ5
  subst l5 y5 z5
  obtain ⟨rfl, N5q, e5⟩ := hQ5      -- what it returned, that it wrote nothing old, and the rest of your Q2
  have N5 := Fr.app N4 N5q
  obtain ⟨fs, hr, hrun, hended, hW, hsame⟩ := X5.leave (v := some (.int (1 : Int32))) (fun h => by rw [Bd.returns] at h; cases h)
  refine ⟨_, _, pre0 _ ?_, hrun, hended, _, _, rfl, ?_, ⟨_, rfl⟩, hW, hsame.mono (by decide) (by decide)⟩
  -- 4. STEPS
  · show Steps p.tables e below (s₁.setTop (mkF m 0 #[.val (.int p1), .unset, .unset, .unset, .unset] [])) _
    refine XS.iloadN X0.here hx rfl (hb hby at_0) rfl ?_
    show Steps p.tables e below (s₁.setTop (mkF m 1 #[.val (.int p1), .unset, .unset, .unset, .unset] [(.int p1)])) _
    refine X0.ldcInt hx hown (mvT hZ (hw _ (List.mem_of_getElem? (i := 0) rfl))) (g := (mkF m 1 #[.val (.int p1), .unset, .unset, .unset, .unset] [(.int p1)])) rfl (hb hby at_1) _ ?_
    show Steps p.tables e below (s₁.setTop (mkF m 3 #[.val (.int p1), .unset, .unset, .unset, .unset] [(.int (2147483647 : Int32)), (.int p1)])) _
    refine XS.iand X0.here hx rfl (hb hby at_3) rfl ?_
    show Steps p.tables e below (s₁.setTop (mkF m 4 #[.val (.int p1), .unset, .unset, .unset, .unset] [(.int (p1 &&& (2147483647 : Int32)))])) _
    refine XS.bipush X0.here hx rfl (hb hby at_4) ?_
    show Steps p.tables e below (s₁.setTop (mkF m 6 #[.val (.int p1), .unset, .unset, .unset, .unset] [(.int (6 : Int32)), (.int (p1 &&& (2147483647 : Int32)))])) _
    refine Jvm.RoadKit.iremM X0 hx rfl (hb hby at_6) rfl (by decide) ?_
    show Steps p.tables e below (s₁.setTop (mkF m 7 #[.val (.int p1), .unset, .unset, .unset, .unset] [(.int ((p1 &&& (2147483647 : Int32)) % (6 : Int32)))])) _
    refine XS.istoreN X0.here hx rfl (hb hby at_7) rfl (l' := #[.val (.int p1), .val (.int ((p1 &&& (2147483647 : Int32)) % (6 : Int32))), .unset, .unset, .unset]) rfl ?_
    show Steps p.tables e below (s₁.setTop (mkF m 8 #[.val (.int p1), .val (.int ((p1 &&& (2147483647 : Int32)) % (6 : Int32))), .unset, .unset, .unset] [])) _
    refine XS.iloadN X0.here hx rfl (hb hby at_8) rfl ?_
    show Steps p.tables e below (s₁.setTop (mkF m 9 #[.val (.int p1), .val (.int ((p1 &&& (2147483647 : Int32)) % (6 : Int32))), .unset, .unset, .unset] [(.int ((p1 &&& (2147483647 : Int32)) % (6 : Int32)))])) _
    refine XS.ifYes X0.here hx rfl (pc0 := 9) (pc' := 21) rfl (hb hby at_9) rfl ((if0 _ _).trans (feq hc9).2) (by decide) (by decide) ?_
    show Steps p.tables e below (s₁.setTop (mkF m 21 #[.val (.int p1), .val (.int ((p1 &&& (2147483647 : Int32)) % (6 : Int32))), .unset, .unset, .unset] [])) _
    refine XS.iloadN X0.here hx rfl (hb hby at_21) rfl ?_
    show Steps p.tables e below (s₁.setTop (mkF m 22 #[.val (.int p1), .val (.int ((p1 &&& (2147483647 : Int32)) % (6 : Int32))), .unset, .unset, .unset] [(.int ((p1 &&& (2147483647 : Int32)) % (6 : Int32)))])) _
    refine XS.iconst X0.here hx rfl (hb hby at_22) ?_
    show Steps p.tables e below (s₁.setTop (mkF m 23 #[.val (.int p1), .val (.int ((p1 &&& (2147483647 : Int32)) % (6 : Int32))), .unset, .unset, .unset] [(.int (1 : Int32)), (.int ((p1 &&& (2147483647 : Int32)) % (6 : Int32)))])) _
    refine XS.icmpYes X0.here hx rfl (pc0 := 23) (pc' := 35) rfl (hb hby at_23) rfl (feq hc23).2 (by decide) (by decide) ?_
    show Steps p.tables e below (s₁.setTop (mkF m 35 #[.val (.int p1), .val (.int ((p1 &&& (2147483647 : Int32)) % (6 : Int32))), .unset, .unset, .unset] [])) _
    refine XS.iloadN X0.here hx rfl (hb hby at_35) rfl ?_
    show Steps p.tables e below (s₁.setTop (mkF m 36 #[.val (.int p1), .val (.int ((p1 &&& (2147483647 : Int32)) % (6 : Int32))), .unset, .unset, .unset] [(.int ((p1 &&& (2147483647 : Int32)) % (6 : Int32)))])) _
    refine XS.iconst X0.here hx rfl (hb hby at_36) ?_
    show Steps p.tables e below (s₁.setTop (mkF m 37 #[.val (.int p1), .val (.int ((p1 &&& (2147483647 : Int32)) % (6 : Int32))), .unset, .unset, .unset] [(.int (2 : Int32)), (.int ((p1 &&& (2147483647 : Int32)) % (6 : Int32)))])) _
    refine XS.icmpYes X0.here hx rfl (pc0 := 37) (pc' := 49) rfl (hb hby at_37) rfl (feq hc37).2 (by decide) (by decide) ?_
    show Steps p.tables e below (s₁.setTop (mkF m 49 #[.val (.int p1), .val (.int ((p1 &&& (2147483647 : Int32)) % (6 : Int32))), .unset, .unset, .unset] [])) _
    refine XS.iloadN X0.here hx rfl (hb hby at_49) rfl ?_
    show Steps p.tables e below (s₁.setTop (mkF m 50 #[.val (.int p1), .val (.int ((p1 &&& (2147483647 : Int32)) % (6 : Int32))), .unset, .unset, .unset] [(.int ((p1 &&& (2147483647 : Int32)) % (6 : Int32)))])) _
    refine XS.iconst X0.here hx rfl (hb hby at_50) ?_
    show Steps p.tables e below (s₁.setTop (mkF m 51 #[.val (.int p1), .val (.int ((p1 &&& (2147483647 : Int32)) % (6 : Int32))), .unset, .unset, .unset] [(.int (3 : Int32)), (.int ((p1 &&& (2147483647 : Int32)) % (6 : Int32)))])) _
    refine XS.icmpNo X0.here hx rfl (hb hby at_51) rfl (teq hc51).2 ?_
    show Steps p.tables e below (s₁.setTop (mkF m 54 #[.val (.int p1), .val (.int ((p1 &&& (2147483647 : Int32)) % (6 : Int32))), .unset, .unset, .unset] [])) _
    refine st3 _ ?_
    show Steps p.tables e below (T3.setTop (mkF m 57 #[.val (.int p1), .val (.int ((p1 &&& (2147483647 : Int32)) % (6 : Int32))), .unset, .unset, .unset] [(.ref w2)])) _
    refine XS.astoreN X3.here hx rfl (hb hby at_57) rfl rfl (l' := #[.val (.int p1), .val (.int ((p1 &&& (2147483647 : Int32)) % (6 : Int32))), .val (.ref w2), .unset, .unset]) rfl ?_
    show Steps p.tables e below (T3.setTop (mkF m 58 #[.val (.int p1), .val (.int ((p1 &&& (2147483647 : Int32)) % (6 : Int32))), .val (.ref w2), .unset, .unset] [])) _
    refine XS.iconst X3.here hx rfl (hb hby at_58) ?_
    show Steps p.tables e below (T3.setTop (mkF m 59 #[.val (.int p1), .val (.int ((p1 &&& (2147483647 : Int32)) % (6 : Int32))), .val (.ref w2), .unset, .unset] [(.int (1 : Int32))])) _
    refine XS.istoreN X3.here hx rfl (hb hby at_59) rfl (l' := #[.val (.int p1), .val (.int ((p1 &&& (2147483647 : Int32)) % (6 : Int32))), .val (.ref w2), .val (.int (1 : Int32)), .unset]) rfl ?_
    show Steps p.tables e below (T3.setTop (mkF m 60 #[.val (.int p1), .val (.int ((p1 &&& (2147483647 : Int32)) % (6 : Int32))), .val (.ref w2), .val (.int (1 : Int32)), .unset] [])) _
    refine XS.goto X3.here hx rfl (pc0 := 60) (pc' := 83) rfl (hb hby at_60) (by decide) (by decide) ?_
    show Steps p.tables e below (T3.setTop (mkF m 83 #[.val (.int p1), .val (.int ((p1 &&& (2147483647 : Int32)) % (6 : Int32))), .val (.ref w2), .val (.int (1 : Int32)), .unset] [])) _
    refine XS.aloadN X3.here hx rfl (hb hby at_83) rfl rfl ?_
    show Steps p.tables e below (T3.setTop (mkF m 84 #[.val (.int p1), .val (.int ((p1 &&& (2147483647 : Int32)) % (6 : Int32))), .val (.ref w2), .val (.int (1 : Int32)), .unset] [(.ref w2)])) _
    refine st4.trans ?_
    show Steps p.tables e below (T4.setTop (mkF m 87 #[.val (.int p1), .val (.int ((p1 &&& (2147483647 : Int32)) % (6 : Int32))), .val (.ref w2), .val (.int (1 : Int32)), .unset] [(.int r4)])) _
    refine XS.istore X4.here hx rfl (hb hby at_87) rfl (l' := #[.val (.int p1), .val (.int ((p1 &&& (2147483647 : Int32)) % (6 : Int32))), .val (.ref w2), .val (.int (1 : Int32)), .val (.int r4)]) rfl ?_
    show Steps p.tables e below (T4.setTop (mkF m 89 #[.val (.int p1), .val (.int ((p1 &&& (2147483647 : Int32)) % (6 : Int32))), .val (.ref w2), .val (.int (1 : Int32)), .val (.int r4)] [])) _
    refine XS.iload X4.here hx rfl (hb hby at_89) rfl ?_
    show Steps p.tables e below (T4.setTop (mkF m 91 #[.val (.int p1), .val (.int ((p1 &&& (2147483647 : Int32)) % (6 : Int32))), .val (.ref w2), .val (.int (1 : Int32)), .val (.int r4)] [(.int r4)])) _
    refine XS.iloadN X4.here hx rfl (hb hby at_91) rfl ?_
    show Steps p.tables e below (T4.setTop (mkF m 92 #[.val (.int p1), .val (.int ((p1 &&& (2147483647 : Int32)) % (6 : Int32))), .val (.ref w2), .val (.int (1 : Int32)), .val (.int r4)] [(.int (1 : Int32)), (.int r4)])) _
    refine XS.icmpNo X4.here hx rfl (hb hby at_92) rfl (teq hx1).2 ?_
    show Steps p.tables e below (T4.setTop (mkF m 95 #[.val (.int p1), .val (.int ((p1 &&& (2147483647 : Int32)) % (6 : Int32))), .val (.ref w2), .val (.int (1 : Int32)), .val (.int r4)] [])) _
    refine XS.iload X4.here hx rfl (hb hby at_95) rfl ?_
    show Steps p.tables e below (T4.setTop (mkF m 97 #[.val (.int p1), .val (.int ((p1 &&& (2147483647 : Int32)) % (6 : Int32))), .val (.ref w2), .val (.int (1 : Int32)), .val (.int r4)] [(.int r4)])) _
    refine XS.aloadN X4.here hx rfl (hb hby at_97) rfl rfl ?_
    show Steps p.tables e below (T4.setTop (mkF m 98 #[.val (.int p1), .val (.int ((p1 &&& (2147483647 : Int32)) % (6 : Int32))), .val (.ref w2), .val (.int (1 : Int32)), .val (.int r4)] [(.ref w2), (.int r4)])) _
    refine st5.trans ?_
    show Steps p.tables e below (T5.setTop (mkF m 101 #[.val (.int p1), .val (.int ((p1 &&& (2147483647 : Int32)) % (6 : Int32))), .val (.ref w2), .val (.int (1 : Int32)), .val (.int r4)] [(.ref r5), (.int r4)])) _
    refine XS.ifnullNo X5.here hx rfl (hb hby at_101) rfl ?_
    show Steps p.tables e below (T5.setTop (mkF m 104 #[.val (.int p1), .val (.int ((p1 &&& (2147483647 : Int32)) % (6 : Int32))), .val (.ref w2), .val (.int (1 : Int32)), .val (.int r4)] [(.int r4)])) _
    refine XS.iconst X5.here hx rfl (hb hby at_104) ?_
    show Steps p.tables e below (T5.setTop (mkF m 105 #[.val (.int p1), .val (.int ((p1 &&& (2147483647 : Int32)) % (6 : Int32))), .val (.ref w2), .val (.int (1 : Int32)), .val (.int r4)] [(.int (1 : Int32)), (.int r4)])) _
    refine XS.goto X5.here hx rfl (pc0 := 105) (pc' := 109) rfl (hb hby at_105) (by decide) (by decide) ?_
    show Steps p.tables e below (T5.setTop (mkF m 109 #[.val (.int p1), .val (.int ((p1 &&& (2147483647 : Int32)) % (6 : Int32))), .val (.ref w2), .val (.int (1 : Int32)), .val (.int r4)] [(.int (1 : Int32)), (.int r4)])) _
    refine XS.icmpNo X5.here hx rfl (hb hby at_109) rfl (teq hx2).2 ?_
    show Steps p.tables e below (T5.setTop (mkF m 112 #[.val (.int p1), .val (.int ((p1 &&& (2147483647 : Int32)) % (6 : Int32))), .val (.ref w2), .val (.int (1 : Int32)), .val (.int r4)] [])) _
    refine XS.iconst X5.here hx rfl (hb hby at_112) ?_
    show Steps p.tables e below (T5.setTop (mkF m 113 #[.val (.int p1), .val (.int ((p1 &&& (2147483647 : Int32)) % (6 : Int32))), .val (.ref w2), .val (.int (1 : Int32)), .val (.int r4)] [(.int (1 : Int32))])) _
    refine XS.goto X5.here hx rfl (pc0 := 113) (pc' := 117) rfl (hb hby at_113) (by decide) (by decide) ?_
    show Steps p.tables e below (T5.setTop (mkF m 117 #[.val (.int p1), .val (.int ((p1 &&& (2147483647 : Int32)) % (6 : Int32))), .val (.ref w2), .val (.int (1 : Int32)), .val (.int r4)] [(.int (1 : Int32))])) _
    exact retN X5 hx (t := .boolean) Bd.returns (by simp) (hb hby at_117) hr
  · show Q0_tttffff Z p1 w2 h0 n0 _ T5.heap _
    exact ⟨rfl, N5⟩
def Q0_ttttffff (Z : State) (p1 : Int32) (w2 : Addr) (h0 : Heap) (n0 : Nat) (v : Option Value) (h : Heap) (L : List Loc) : Prop := v = some (.int (1 : Int32)) ∧ Fr n0 L
set_option maxRecDepth 65536 in
set_option maxHeartbeats 40000000 in
theorem rm0_ttttffff (l : Launch) (Z : State) (a0 : Array Value) (hw : ∀ d ∈ tables_1, d.before a0 Z = true) (ws : List Jvm.Cond) (p1 : Int32) (w2 : Addr) (r4 : Int32) (r5 : Addr) (h0 : Heap) (n0 : Nat) (Z0 : n0 ≤ h0.size) (S_DOUBLE_ARRAY : Sta Z h0 "com/example/indexwright/indexwright/sql/ColumnType" "DOUBLE_ARRAY" "Lcom/example/indexwright/indexwright/sql/ColumnType;" (.ref w2)) (E_w2 : Exa Z h0 w2 "com/example/indexwright/indexwright/sql/ColumnType") (hc9 : ¬ (((p1 &&& (2147483647 : Int32)) % (6 : Int32)) = (0 : Int32))) (hc23 : ¬ (((p1 &&& (2147483647 : Int32)) % (6 : Int32)) = (1 : Int32))) (hc37 : ¬ (((p1 &&& (2147483647 : Int32)) % (6 : Int32)) = (2 : Int32))) (hc51 : ¬ (((p1 &&& (2147483647 : Int32)) % (6 : Int32)) = (3 : Int32))) (hc65 : ((p1 &&& (2147483647 : Int32)) % (6 : Int32)) = (4 : Int32)) (hP4 : P1 Z h0 w2 (some (.int r4))) (hP5 : P2 Z h0 w2 (some (.ref r5))) (hx1 : r4 = (1 : Int32)) (hx2 : r4 = (1 : Int32)) :
    MetFree l x (head1 (Jvm.Cond.code x code maxLocals ret :: ws) room_1) (fun a U => a = #[(.int p1)] ∧ Z.Warmed39 U.vm ∧ U.heap = h0) (fun _ _ _ _ _ => True) (fun _ U o U' => ∃ v L, o = .returned v ∧ Q0_ttttffff Z p1 w2 h0 n0 v U'.heap L ∧ FrameEnd U o U' L room_1.cells room_1.slots) := by
  refine MetFree.of_bodySF (plainFor_of_name pn_0) hisR ?_
  intro p e s m args below meth c s₁ Bd hml0 hP hK
  obtain ⟨rfl, hZ, hh⟩ := hP
  have hx := Bd.exec
  have hby := Bd.bytes
  have hml : c.maxLocals = 5 := hml0
  have hown : s.vm.findClass "com/example/indexwright/indexwright/sql/ColumnTypeIsArrayPinLaw" = some m.cls := findClass_of_methodNamed Bd.named
  have hnm := (name_of_methodNamed Bd.named Bd.method).1
  have X0 : Stand p l e room_1 s m #[(.int p1)] below meth c s₁ [] 0 0 := Stand.of_body Bd
  have e0 : s₁.heap = h0 := by rw [← hh, Bd.state]; rfl
  have N0 := Fr.nil n0
  have pre0 : ∀ t, Steps p.tables e below (s₁.setTop (mkF m 0 #[.val (.int p1), .unset, .unset, .unset, .unset] [])) t → Steps p.tables e below (s₁.setTop (entryFrame m #[(.int p1)] maxLocals)) t := fun t k => castTop (ef_0 m p1) k
  -- 3. LAWS
  obtain ⟨T3, X3, e3, st3⟩ := getS2 X0 hx hZ hown (host := "") (Or.inl (hw _ (List.mem_of_getElem? (i := 24) rfl))) Via.refl e0 S_DOUBLE_ARRAY (g := (mkF m 68 #[.val (.int p1), .val (.int ((p1 &&& (2147483647 : Int32)) % (6 : Int32))), .unset, .unset, .unset] [])) rfl (hb hby at_68)
  -- pc 84: com/example/indexwright/indexwright/sql/ColumnType.isArray by the contract of the body that the receiver's class selects, rm1
  obtain ⟨cq4, kq4, q4a, q4b, q4c⟩ := isOf hZ e3 E_w2
  obtain ⟨_, _, ⟨T4, L4, k4, n4⟩, -, X4, ⟨Lc4, hQ4, l4, y4, z4⟩, st4⟩ := X3.virtualBack hx (y := (⟨"com/example/indexwright/indexwright/sql/ColumnType", "isArray", "()Z"⟩ : MethodName)) (z := (⟨"com/example/indexwright/indexwright/sql/ColumnType", "isArray", "()Z"⟩ : MethodName)) hown (mvT hZ (hw _ (List.mem_of_getElem? (i := 4) rfl))) (mvT hZ (hw _ (List.mem_of_getElem? (i := 5) rfl))) (notFace_of_selects (args := #[]) (mvT hZ (hw _ (List.mem_of_getElem? (i := 7) rfl)))) (mvT hZ (hw _ (List.mem_of_getElem? (i := 7) rfl))) (mvT hZ (hw _ (List.mem_of_getElem? (i := 6) rfl))) (by decide) (backOf (W := 0) (own_1 l Z a0 hw [] w2 (some (.int r4)) h0 n0 Z0 hP4) hZ (hw _ (List.mem_of_getElem? (i := 8) rfl)) (hw _ (List.mem_of_getElem? (i := 2) rfl)) (by decide) (by decide)) q4a q4c (g := (mkF m 84 #[.val (.int p1), .val (.int ((p1 &&& (2147483647 : Int32)) % (6 : Int32))), .val (.ref w2), .val (.int (1 : Int32)), .unset] [(.ref w2)])) rfl (by rw [hml]; rfl) (Steps.refl _) (argsL := []) (rest := []) (lenOf pd_0_0 rfl) rfl (by show 2 * 0 + _ ≤ _; exact Nat.le_of_eq rfl) (hb hby at_84) (fun _ _ => ⟨rfl, e3, (by decide : 0 + 0 ≤ _), (by decide : 0 + 0 ≤ _)⟩)
  dsimp only [Pt.U, Pt.locs, Pt.cells, Pt.slots] at X4 l4 y4 z4 st4 hQ4
  subst l4 y4 z4
  obtain ⟨rfl, N4q, e4⟩ := hQ4      -- what it returned, that it wrote nothing old, and the rest of your Q1
  have N4 := Fr.app N0 N4q
  -- pc 98: com/example/indexwright/indexwright/sql/ColumnType.element by the contract of the body that the receiver's class selects, rm2
  obtain ⟨cq5, kq5, q5a, q5b, q5c⟩ := isOf hZ e4 E_w2
  obtain ⟨_, _, ⟨T5, L5, k5, n5⟩, -, X5, ⟨Lc5, hQ5, l5, y5, z5⟩, st5⟩ := X4.virtualBack hx (y := (⟨"com/example/indexwright/indexwright/sql/ColumnType", "element", "()Lcom/example/indexwright/indexwright/sql/ColumnType;"⟩ : MethodName)) (z := (⟨"com/example/indexwright/indexwright/sql/ColumnType", "element", "()Lcom/example/indexwright/indexwright/sql/ColumnType;"⟩ : MethodName)) hown (mvT hZ (hw _ (List.mem_of_getElem? (i := 11) rfl))) (mvT hZ (hw _ (List.mem_of_getElem? (i := 12) rfl))) (notFace_of_selects (args := #[]) (mvT hZ (hw _ (List.mem_of_getElem? (i := 14) rfl)))) (mvT hZ (hw _ (List.mem_of_getElem? (i := 14) rfl))) (mvT hZ (hw _ (List.mem_of_getElem? (i := 13) rfl))) (by decide) (backOf (W := 1) (own_2 l Z a0 hw [] w2 (some (.ref r5)) h0 n0 Z0 hP5) hZ (hw _ (List.mem_of_getElem? (i := 15) rfl)) (hw _ (List.mem_of_getElem? (i := 2) rfl)) (by decide) (by decide)) q5a q5c (g := (mkF m 98 #[.val (.int p1), .val (.int ((p1 &&& (2147483647 : Int32)) % (6 : Int32))), .val (.ref w2), .val (.int (1 : Int32)), .val (.int r4)] [(.ref w2), (.int r4)])) rfl (by rw [hml]; rfl) (Steps.refl _) (argsL := []) (rest := [(.int r4)]) (lenOf pd_0_1 rfl) rfl (by show 2 * 0 + _ ≤ _; exact Nat.le_of_eq rfl) (hb hby at_98) (fun _ _ => ⟨rfl, e4, (by decide : 0 + 0 ≤ _), (by decide : 0 + 0 ≤ _)⟩)
  dsimp only [Pt.U, Pt.locs, Pt.cells, Pt.slots] at X5 l5 y5 z5 st5 hQ5
  subst l5 y5 z5
  obtain ⟨rfl, N5q, e5⟩ := hQ5      -- what it returned, that it wrote nothing old, and the rest of your Q2
  have N5 := Fr.app N4 N5q
  obtain ⟨fs, hr, hrun, hended, hW, hsame⟩ := X5.leave (v := some (.int (1 : Int32))) (fun h => by rw [Bd.returns] at h; cases h)
  refine ⟨_, _, pre0 _ ?_, hrun, hended, _, _, rfl, ?_, ⟨_, rfl⟩, hW, hsame.mono (by decide) (by decide)⟩
  -- 4. STEPS
  · show Steps p.tables e below (s₁.setTop (mkF m 0 #[.val (.int p1), .unset, .unset, .unset, .unset] [])) _
    refine XS.iloadN X0.here hx rfl (hb hby at_0) rfl ?_
    show Steps p.tables e below (s₁.setTop (mkF m 1 #[.val (.int p1), .unset, .unset, .unset, .unset] [(.int p1)])) _
    refine X0.ldcInt hx hown (mvT hZ (hw _ (List.mem_of_getElem? (i := 0) rfl))) (g := (mkF m 1 #[.val (.int p1), .unset, .unset, .unset, .unset] [(.int p1)])) rfl (hb hby at_1) _ ?_
    show Steps p.tables e below (s₁.setTop (mkF m 3 #[.val (.int p1), .unset, .unset, .unset, .unset] [(.int (2147483647 : Int32)), (.int p1)])) _
    refine XS.iand X0.here hx rfl (hb hby at_3) rfl ?_
    show Steps p.tables e below (s₁.setTop (mkF m 4 #[.val (.int p1), .unset, .unset, .unset, .unset] [(.int (p1 &&& (2147483647 : Int32)))])) _
    refine XS.bipush X0.here hx rfl (hb hby at_4) ?_
    show Steps p.tables e below (s₁.setTop (mkF m 6 #[.val (.int p1), .unset, .unset, .unset, .unset] [(.int (6 : Int32)), (.int (p1 &&& (2147483647 : Int32)))])) _
    refine Jvm.RoadKit.iremM X0 hx rfl (hb hby at_6) rfl (by decide) ?_
    show Steps p.tables e below (s₁.setTop (mkF m 7 #[.val (.int p1), .unset, .unset, .unset, .unset] [(.int ((p1 &&& (2147483647 : Int32)) % (6 : Int32)))])) _
    refine XS.istoreN X0.here hx rfl (hb hby at_7) rfl (l' := #[.val (.int p1), .val (.int ((p1 &&& (2147483647 : Int32)) % (6 : Int32))), .unset, .unset, .unset]) rfl ?_
    show Steps p.tables e below (s₁.setTop (mkF m 8 #[.val (.int p1), .val (.int ((p1 &&& (2147483647 : Int32)) % (6 : Int32))), .unset, .unset, .unset] [])) _
    refine XS.iloadN X0.here hx rfl (hb hby at_8) rfl ?_
    show Steps p.tables e below (s₁.setTop (mkF m 9 #[.val (.int p1), .val (.int ((p1 &&& (2147483647 : Int32)) % (6 : Int32))), .unset, .unset, .unset] [(.int ((p1 &&& (2147483647 : Int32)) % (6 : Int32)))])) _
    refine XS.ifYes X0.here hx rfl (pc0 := 9) (pc' := 21) rfl (hb hby at_9) rfl ((if0 _ _).trans (feq hc9).2) (by decide) (by decide) ?_
    show Steps p.tables e below (s₁.setTop (mkF m 21 #[.val (.int p1), .val (.int ((p1 &&& (2147483647 : Int32)) % (6 : Int32))), .unset, .unset, .unset] [])) _
    refine XS.iloadN X0.here hx rfl (hb hby at_21) rfl ?_
    show Steps p.tables e below (s₁.setTop (mkF m 22 #[.val (.int p1), .val (.int ((p1 &&& (2147483647 : Int32)) % (6 : Int32))), .unset, .unset, .unset] [(.int ((p1 &&& (2147483647 : Int32)) % (6 : Int32)))])) _
    refine XS.iconst X0.here hx rfl (hb hby at_22) ?_
    show Steps p.tables e below (s₁.setTop (mkF m 23 #[.val (.int p1), .val (.int ((p1 &&& (2147483647 : Int32)) % (6 : Int32))), .unset, .unset, .unset] [(.int (1 : Int32)), (.int ((p1 &&& (2147483647 : Int32)) % (6 : Int32)))])) _
    refine XS.icmpYes X0.here hx rfl (pc0 := 23) (pc' := 35) rfl (hb hby at_23) rfl (feq hc23).2 (by decide) (by decide) ?_
    show Steps p.tables e below (s₁.setTop (mkF m 35 #[.val (.int p1), .val (.int ((p1 &&& (2147483647 : Int32)) % (6 : Int32))), .unset, .unset, .unset] [])) _
    refine XS.iloadN X0.here hx rfl (hb hby at_35) rfl ?_
    show Steps p.tables e below (s₁.setTop (mkF m 36 #[.val (.int p1), .val (.int ((p1 &&& (2147483647 : Int32)) % (6 : Int32))), .unset, .unset, .unset] [(.int ((p1 &&& (2147483647 : Int32)) % (6 : Int32)))])) _
    refine XS.iconst X0.here hx rfl (hb hby at_36) ?_
    show Steps p.tables e below (s₁.setTop (mkF m 37 #[.val (.int p1), .val (.int ((p1 &&& (2147483647 : Int32)) % (6 : Int32))), .unset, .unset, .unset] [(.int (2 : Int32)), (.int ((p1 &&& (2147483647 : Int32)) % (6 : Int32)))])) _
    refine XS.icmpYes X0.here hx rfl (pc0 := 37) (pc' := 49) rfl (hb hby at_37) rfl (feq hc37).2 (by decide) (by decide) ?_
    show Steps p.tables e below (s₁.setTop (mkF m 49 #[.val (.int p1), .val (.int ((p1 &&& (2147483647 : Int32)) % (6 : Int32))), .unset, .unset, .unset] [])) _
    refine XS.iloadN X0.here hx rfl (hb hby at_49) rfl ?_
    show Steps p.tables e below (s₁.setTop (mkF m 50 #[.val (.int p1), .val (.int ((p1 &&& (2147483647 : Int32)) % (6 : Int32))), .unset, .unset, .unset] [(.int ((p1 &&& (2147483647 : Int32)) % (6 : Int32)))])) _
    refine XS.iconst X0.here hx rfl (hb hby at_50) ?_
    show Steps p.tables e below (s₁.setTop (mkF m 51 #[.val (.int p1), .val (.int ((p1 &&& (2147483647 : Int32)) % (6 : Int32))), .unset, .unset, .unset] [(.int (3 : Int32)), (.int ((p1 &&& (2147483647 : Int32)) % (6 : Int32)))])) _
    refine XS.icmpYes X0.here hx rfl (pc0 := 51) (pc' := 63) rfl (hb hby at_51) rfl (feq hc51).2 (by decide) (by decide) ?_
    show Steps p.tables e below (s₁.setTop (mkF m 63 #[.val (.int p1), .val (.int ((p1 &&& (2147483647 : Int32)) % (6 : Int32))), .unset, .unset, .unset] [])) _
    refine XS.iloadN X0.here hx rfl (hb hby at_63) rfl ?_
    show Steps p.tables e below (s₁.setTop (mkF m 64 #[.val (.int p1), .val (.int ((p1 &&& (2147483647 : Int32)) % (6 : Int32))), .unset, .unset, .unset] [(.int ((p1 &&& (2147483647 : Int32)) % (6 : Int32)))])) _
    refine XS.iconst X0.here hx rfl (hb hby at_64) ?_
    show Steps p.tables e below (s₁.setTop (mkF m 65 #[.val (.int p1), .val (.int ((p1 &&& (2147483647 : Int32)) % (6 : Int32))), .unset, .unset, .unset] [(.int (4 : Int32)), (.int ((p1 &&& (2147483647 : Int32)) % (6 : Int32)))])) _
    refine XS.icmpNo X0.here hx rfl (hb hby at_65) rfl (teq hc65).2 ?_
    show Steps p.tables e below (s₁.setTop (mkF m 68 #[.val (.int p1), .val (.int ((p1 &&& (2147483647 : Int32)) % (6 : Int32))), .unset, .unset, .unset] [])) _
    refine st3 _ ?_
    show Steps p.tables e below (T3.setTop (mkF m 71 #[.val (.int p1), .val (.int ((p1 &&& (2147483647 : Int32)) % (6 : Int32))), .unset, .unset, .unset] [(.ref w2)])) _
    refine XS.astoreN X3.here hx rfl (hb hby at_71) rfl rfl (l' := #[.val (.int p1), .val (.int ((p1 &&& (2147483647 : Int32)) % (6 : Int32))), .val (.ref w2), .unset, .unset]) rfl ?_
    show Steps p.tables e below (T3.setTop (mkF m 72 #[.val (.int p1), .val (.int ((p1 &&& (2147483647 : Int32)) % (6 : Int32))), .val (.ref w2), .unset, .unset] [])) _
    refine XS.iconst X3.here hx rfl (hb hby at_72) ?_
    show Steps p.tables e below (T3.setTop (mkF m 73 #[.val (.int p1), .val (.int ((p1 &&& (2147483647 : Int32)) % (6 : Int32))), .val (.ref w2), .unset, .unset] [(.int (1 : Int32))])) _
    refine XS.istoreN X3.here hx rfl (hb hby at_73) rfl (l' := #[.val (.int p1), .val (.int ((p1 &&& (2147483647 : Int32)) % (6 : Int32))), .val (.ref w2), .val (.int (1 : Int32)), .unset]) rfl ?_
    show Steps p.tables e below (T3.setTop (mkF m 74 #[.val (.int p1), .val (.int ((p1 &&& (2147483647 : Int32)) % (6 : Int32))), .val (.ref w2), .val (.int (1 : Int32)), .unset] [])) _
    refine XS.goto X3.here hx rfl (pc0 := 74) (pc' := 83) rfl (hb hby at_74) (by decide) (by decide) ?_
    show Steps p.tables e below (T3.setTop (mkF m 83 #[.val (.int p1), .val (.int ((p1 &&& (2147483647 : Int32)) % (6 : Int32))), .val (.ref w2), .val (.int (1 : Int32)), .unset] [])) _
    refine XS.aloadN X3.here hx rfl (hb hby at_83) rfl rfl ?_
    show Steps p.tables e below (T3.setTop (mkF m 84 #[.val (.int p1), .val (.int ((p1 &&& (2147483647 : Int32)) % (6 : Int32))), .val (.ref w2), .val (.int (1 : Int32)), .unset] [(.ref w2)])) _
    refine st4.trans ?_
    show Steps p.tables e below (T4.setTop (mkF m 87 #[.val (.int p1), .val (.int ((p1 &&& (2147483647 : Int32)) % (6 : Int32))), .val (.ref w2), .val (.int (1 : Int32)), .unset] [(.int r4)])) _
    refine XS.istore X4.here hx rfl (hb hby at_87) rfl (l' := #[.val (.int p1), .val (.int ((p1 &&& (2147483647 : Int32)) % (6 : Int32))), .val (.ref w2), .val (.int (1 : Int32)), .val (.int r4)]) rfl ?_
    show Steps p.tables e below (T4.setTop (mkF m 89 #[.val (.int p1), .val (.int ((p1 &&& (2147483647 : Int32)) % (6 : Int32))), .val (.ref w2), .val (.int (1 : Int32)), .val (.int r4)] [])) _
    refine XS.iload X4.here hx rfl (hb hby at_89) rfl ?_
    show Steps p.tables e below (T4.setTop (mkF m 91 #[.val (.int p1), .val (.int ((p1 &&& (2147483647 : Int32)) % (6 : Int32))), .val (.ref w2), .val (.int (1 : Int32)), .val (.int r4)] [(.int r4)])) _
    refine XS.iloadN X4.here hx rfl (hb hby at_91) rfl ?_
    show Steps p.tables e below (T4.setTop (mkF m 92 #[.val (.int p1), .val (.int ((p1 &&& (2147483647 : Int32)) % (6 : Int32))), .val (.ref w2), .val (.int (1 : Int32)), .val (.int r4)] [(.int (1 : Int32)), (.int r4)])) _
    refine XS.icmpNo X4.here hx rfl (hb hby at_92) rfl (teq hx1).2 ?_
    show Steps p.tables e below (T4.setTop (mkF m 95 #[.val (.int p1), .val (.int ((p1 &&& (2147483647 : Int32)) % (6 : Int32))), .val (.ref w2), .val (.int (1 : Int32)), .val (.int r4)] [])) _
    refine XS.iload X4.here hx rfl (hb hby at_95) rfl ?_
    show Steps p.tables e below (T4.setTop (mkF m 97 #[.val (.int p1), .val (.int ((p1 &&& (2147483647 : Int32)) % (6 : Int32))), .val (.ref w2), .val (.int (1 : Int32)), .val (.int r4)] [(.int r4)])) _
    refine XS.aloadN X4.here hx rfl (hb hby at_97) rfl rfl ?_
    show Steps p.tables e below (T4.setTop (mkF m 98 #[.val (.int p1), .val (.int ((p1 &&& (2147483647 : Int32)) % (6 : Int32))), .val (.ref w2), .val (.int (1 : Int32)), .val (.int r4)] [(.ref w2), (.int r4)])) _
    refine st5.trans ?_
    show Steps p.tables e below (T5.setTop (mkF m 101 #[.val (.int p1), .val (.int ((p1 &&& (2147483647 : Int32)) % (6 : Int32))), .val (.ref w2), .val (.int (1 : Int32)), .val (.int r4)] [(.ref r5), (.int r4)])) _
    refine XS.ifnullNo X5.here hx rfl (hb hby at_101) rfl ?_
    show Steps p.tables e below (T5.setTop (mkF m 104 #[.val (.int p1), .val (.int ((p1 &&& (2147483647 : Int32)) % (6 : Int32))), .val (.ref w2), .val (.int (1 : Int32)), .val (.int r4)] [(.int r4)])) _
    refine XS.iconst X5.here hx rfl (hb hby at_104) ?_
    show Steps p.tables e below (T5.setTop (mkF m 105 #[.val (.int p1), .val (.int ((p1 &&& (2147483647 : Int32)) % (6 : Int32))), .val (.ref w2), .val (.int (1 : Int32)), .val (.int r4)] [(.int (1 : Int32)), (.int r4)])) _
    refine XS.goto X5.here hx rfl (pc0 := 105) (pc' := 109) rfl (hb hby at_105) (by decide) (by decide) ?_
    show Steps p.tables e below (T5.setTop (mkF m 109 #[.val (.int p1), .val (.int ((p1 &&& (2147483647 : Int32)) % (6 : Int32))), .val (.ref w2), .val (.int (1 : Int32)), .val (.int r4)] [(.int (1 : Int32)), (.int r4)])) _
    refine XS.icmpNo X5.here hx rfl (hb hby at_109) rfl (teq hx2).2 ?_
    show Steps p.tables e below (T5.setTop (mkF m 112 #[.val (.int p1), .val (.int ((p1 &&& (2147483647 : Int32)) % (6 : Int32))), .val (.ref w2), .val (.int (1 : Int32)), .val (.int r4)] [])) _
    refine XS.iconst X5.here hx rfl (hb hby at_112) ?_
    show Steps p.tables e below (T5.setTop (mkF m 113 #[.val (.int p1), .val (.int ((p1 &&& (2147483647 : Int32)) % (6 : Int32))), .val (.ref w2), .val (.int (1 : Int32)), .val (.int r4)] [(.int (1 : Int32))])) _
    refine XS.goto X5.here hx rfl (pc0 := 113) (pc' := 117) rfl (hb hby at_113) (by decide) (by decide) ?_
    show Steps p.tables e below (T5.setTop (mkF m 117 #[.val (.int p1), .val (.int ((p1 &&& (2147483647 : Int32)) % (6 : Int32))), .val (.ref w2), .val (.int (1 : Int32)), .val (.int r4)] [(.int (1 : Int32))])) _
    exact retN X5 hx (t := .boolean) Bd.returns (by simp) (hb hby at_117) hr
  · show Q0_ttttffff Z p1 w2 h0 n0 _ T5.heap _
    exact ⟨rfl, N5⟩
def Q0_tttttfff (Z : State) (p1 : Int32) (w2 : Addr) (h0 : Heap) (n0 : Nat) (v : Option Value) (h : Heap) (L : List Loc) : Prop := v = some (.int (1 : Int32)) ∧ Fr n0 L
set_option maxRecDepth 65536 in
set_option maxHeartbeats 40000000 in
theorem rm0_tttttfff (l : Launch) (Z : State) (a0 : Array Value) (hw : ∀ d ∈ tables_1, d.before a0 Z = true) (ws : List Jvm.Cond) (p1 : Int32) (w2 : Addr) (r4 : Int32) (r5 : Addr) (h0 : Heap) (n0 : Nat) (Z0 : n0 ≤ h0.size) (S_VARCHAR_ARRAY : Sta Z h0 "com/example/indexwright/indexwright/sql/ColumnType" "VARCHAR_ARRAY" "Lcom/example/indexwright/indexwright/sql/ColumnType;" (.ref w2)) (E_w2 : Exa Z h0 w2 "com/example/indexwright/indexwright/sql/ColumnType") (hc9 : ¬ (((p1 &&& (2147483647 : Int32)) % (6 : Int32)) = (0 : Int32))) (hc23 : ¬ (((p1 &&& (2147483647 : Int32)) % (6 : Int32)) = (1 : Int32))) (hc37 : ¬ (((p1 &&& (2147483647 : Int32)) % (6 : Int32)) = (2 : Int32))) (hc51 : ¬ (((p1 &&& (2147483647 : Int32)) % (6 : Int32)) = (3 : Int32))) (hc65 : ¬ (((p1 &&& (2147483647 : Int32)) % (6 : Int32)) = (4 : Int32))) (hP4 : P1 Z h0 w2 (some (.int r4))) (hP5 : P2 Z h0 w2 (some (.ref r5))) (hx1 : r4 = (1 : Int32)) (hx2 : r4 = (1 : Int32)) :
    MetFree l x (head1 (Jvm.Cond.code x code maxLocals ret :: ws) room_1) (fun a U => a = #[(.int p1)] ∧ Z.Warmed39 U.vm ∧ U.heap = h0) (fun _ _ _ _ _ => True) (fun _ U o U' => ∃ v L, o = .returned v ∧ Q0_tttttfff Z p1 w2 h0 n0 v U'.heap L ∧ FrameEnd U o U' L room_1.cells room_1.slots) := by
  refine MetFree.of_bodySF (plainFor_of_name pn_0) hisR ?_
  intro p e s m args below meth c s₁ Bd hml0 hP hK
  obtain ⟨rfl, hZ, hh⟩ := hP
  have hx := Bd.exec
  have hby := Bd.bytes
  have hml : c.maxLocals = 5 := hml0
  have hown : s.vm.findClass "com/example/indexwright/indexwright/sql/ColumnTypeIsArrayPinLaw" = some m.cls := findClass_of_methodNamed Bd.named
  have hnm := (name_of_methodNamed Bd.named Bd.method).1
  have X0 : Stand p l e room_1 s m #[(.int p1)] below meth c s₁ [] 0 0 := Stand.of_body Bd
  have e0 : s₁.heap = h0 := by rw [← hh, Bd.state]; rfl
  have N0 := Fr.nil n0
  have pre0 : ∀ t, Steps p.tables e below (s₁.setTop (mkF m 0 #[.val (.int p1), .unset, .unset, .unset, .unset] [])) t → Steps p.tables e below (s₁.setTop (entryFrame m #[(.int p1)] maxLocals)) t := fun t k => castTop (ef_0 m p1) k
  -- 3. LAWS
  obtain ⟨T3, X3, e3, st3⟩ := getS2 X0 hx hZ hown (host := "") (Or.inl (hw _ (List.mem_of_getElem? (i := 22) rfl))) Via.refl e0 S_VARCHAR_ARRAY (g := (mkF m 77 #[.val (.int p1), .val (.int ((p1 &&& (2147483647 : Int32)) % (6 : Int32))), .unset, .unset, .unset] [])) rfl (hb hby at_77)
  -- pc 84: com/example/indexwright/indexwright/sql/ColumnType.isArray by the contract of the body that the receiver's class selects, rm1
  obtain ⟨cq4, kq4, q4a, q4b, q4c⟩ := isOf hZ e3 E_w2
  obtain ⟨_, _, ⟨T4, L4, k4, n4⟩, -, X4, ⟨Lc4, hQ4, l4, y4, z4⟩, st4⟩ := X3.virtualBack hx (y := (⟨"com/example/indexwright/indexwright/sql/ColumnType", "isArray", "()Z"⟩ : MethodName)) (z := (⟨"com/example/indexwright/indexwright/sql/ColumnType", "isArray", "()Z"⟩ : MethodName)) hown (mvT hZ (hw _ (List.mem_of_getElem? (i := 4) rfl))) (mvT hZ (hw _ (List.mem_of_getElem? (i := 5) rfl))) (notFace_of_selects (args := #[]) (mvT hZ (hw _ (List.mem_of_getElem? (i := 7) rfl)))) (mvT hZ (hw _ (List.mem_of_getElem? (i := 7) rfl))) (mvT hZ (hw _ (List.mem_of_getElem? (i := 6) rfl))) (by decide) (backOf (W := 0) (own_1 l Z a0 hw [] w2 (some (.int r4)) h0 n0 Z0 hP4) hZ (hw _ (List.mem_of_getElem? (i := 8) rfl)) (hw _ (List.mem_of_getElem? (i := 2) rfl)) (by decide) (by decide)) q4a q4c (g := (mkF m 84 #[.val (.int p1), .val (.int ((p1 &&& (2147483647 : Int32)) % (6 : Int32))), .val (.ref w2), .val (.int (1 : Int32)), .unset] [(.ref w2)])) rfl (by rw [hml]; rfl) (Steps.refl _) (argsL := []) (rest := []) (lenOf pd_0_0 rfl) rfl (by show 2 * 0 + _ ≤ _; exact Nat.le_of_eq rfl) (hb hby at_84) (fun _ _ => ⟨rfl, e3, (by decide : 0 + 0 ≤ _), (by decide : 0 + 0 ≤ _)⟩)
  dsimp only [Pt.U, Pt.locs, Pt.cells, Pt.slots] at X4 l4 y4 z4 st4 hQ4
  subst l4 y4 z4
  obtain ⟨rfl, N4q, e4⟩ := hQ4      -- what it returned, that it wrote nothing old, and the rest of your Q1
  have N4 := Fr.app N0 N4q
  -- pc 98: com/example/indexwright/indexwright/sql/ColumnType.element by the contract of the body that the receiver's class selects, rm2
  obtain ⟨cq5, kq5, q5a, q5b, q5c⟩ := isOf hZ e4 E_w2
  obtain ⟨_, _, ⟨T5, L5, k5, n5⟩, -, X5, ⟨Lc5, hQ5, l5, y5, z5⟩, st5⟩ := X4.virtualBack hx (y := (⟨"com/example/indexwright/indexwright/sql/ColumnType", "element", "()Lcom/example/indexwright/indexwright/sql/ColumnType;"⟩ : MethodName)) (z := (⟨"com/example/indexwright/indexwright/sql/ColumnType", "element", "()Lcom/example/indexwright/indexwright/sql/ColumnType;"⟩ : MethodName)) hown (mvT hZ (hw _ (List.mem_of_getElem? (i := 11) rfl))) (mvT hZ (hw _ (List.mem_of_getElem? (i := 12) rfl))) (notFace_of_selects (args := #[]) (mvT hZ (hw _ (List.mem_of_getElem? (i := 14) rfl)))) (mvT hZ (hw _ (List.mem_of_getElem? (i := 14) rfl))) (mvT hZ (hw _ (List.mem_of_getElem? (i := 13) rfl))) (by decide) (backOf (W := 1) (own_2 l Z a0 hw [] w2 (some (.ref r5)) h0 n0 Z0 hP5) hZ (hw _ (List.mem_of_getElem? (i := 15) rfl)) (hw _ (List.mem_of_getElem? (i := 2) rfl)) (by decide) (by decide)) q5a q5c (g := (mkF m 98 #[.val (.int p1), .val (.int ((p1 &&& (2147483647 : Int32)) % (6 : Int32))), .val (.ref w2), .val (.int (1 : Int32)), .val (.int r4)] [(.ref w2), (.int r4)])) rfl (by rw [hml]; rfl) (Steps.refl _) (argsL := []) (rest := [(.int r4)]) (lenOf pd_0_1 rfl) rfl (by show 2 * 0 + _ ≤ _; exact Nat.le_of_eq rfl) (hb hby at_98) (fun _ _ => ⟨rfl, e4, (by decide : 0 + 0 ≤ _), (by decide : 0 + 0 ≤ _)⟩)
  dsimp only [Pt.U, Pt.locs, Pt.cells, Pt.slots] at X5 l5 y5 z5 st5 hQ5
  subst l5 y5 z5
  obtain ⟨rfl, N5q, e5⟩ := hQ5      -- what it returned, that it wrote nothing old, and the rest of your Q2
  have N5 := Fr.app N4 N5q
  obtain ⟨fs, hr, hrun, hended, hW, hsame⟩ := X5.leave (v := some (.int (1 : Int32))) (fun h => by rw [Bd.returns] at h; cases h)
  refine ⟨_, _, pre0 _ ?_, hrun, hended, _, _, rfl, ?_, ⟨_, rfl⟩, hW, hsame.mono (by decide) (by decide)⟩
  -- 4. STEPS
  · show Steps p.tables e below (s₁.setTop (mkF m 0 #[.val (.int p1), .unset, .unset, .unset, .unset] [])) _
    refine XS.iloadN X0.here hx rfl (hb hby at_0) rfl ?_
    show Steps p.tables e below (s₁.setTop (mkF m 1 #[.val (.int p1), .unset, .unset, .unset, .unset] [(.int p1)])) _
    refine X0.ldcInt hx hown (mvT hZ (hw _ (List.mem_of_getElem? (i := 0) rfl))) (g := (mkF m 1 #[.val (.int p1), .unset, .unset, .unset, .unset] [(.int p1)])) rfl (hb hby at_1) _ ?_
    show Steps p.tables e below (s₁.setTop (mkF m 3 #[.val (.int p1), .unset, .unset, .unset, .unset] [(.int (2147483647 : Int32)), (.int p1)])) _
    refine XS.iand X0.here hx rfl (hb hby at_3) rfl ?_
    show Steps p.tables e below (s₁.setTop (mkF m 4 #[.val (.int p1), .unset, .unset, .unset, .unset] [(.int (p1 &&& (2147483647 : Int32)))])) _
    refine XS.bipush X0.here hx rfl (hb hby at_4) ?_
    show Steps p.tables e below (s₁.setTop (mkF m 6 #[.val (.int p1), .unset, .unset, .unset, .unset] [(.int (6 : Int32)), (.int (p1 &&& (2147483647 : Int32)))])) _
    refine Jvm.RoadKit.iremM X0 hx rfl (hb hby at_6) rfl (by decide) ?_
    show Steps p.tables e below (s₁.setTop (mkF m 7 #[.val (.int p1), .unset, .unset, .unset, .unset] [(.int ((p1 &&& (2147483647 : Int32)) % (6 : Int32)))])) _
    refine XS.istoreN X0.here hx rfl (hb hby at_7) rfl (l' := #[.val (.int p1), .val (.int ((p1 &&& (2147483647 : Int32)) % (6 : Int32))), .unset, .unset, .unset]) rfl ?_
    show Steps p.tables e below (s₁.setTop (mkF m 8 #[.val (.int p1), .val (.int ((p1 &&& (2147483647 : Int32)) % (6 : Int32))), .unset, .unset, .unset] [])) _
    refine XS.iloadN X0.here hx rfl (hb hby at_8) rfl ?_
    show Steps p.tables e below (s₁.setTop (mkF m 9 #[.val (.int p1), .val (.int ((p1 &&& (2147483647 : Int32)) % (6 : Int32))), .unset, .unset, .unset] [(.int ((p1 &&& (2147483647 : Int32)) % (6 : Int32)))])) _
    refine XS.ifYes X0.here hx rfl (pc0 := 9) (pc' := 21) rfl (hb hby at_9) rfl ((if0 _ _).trans (feq hc9).2) (by decide) (by decide) ?_
    show Steps p.tables e below (s₁.setTop (mkF m 21 #[.val (.int p1), .val (.int ((p1 &&& (2147483647 : Int32)) % (6 : Int32))), .unset, .unset, .unset] [])) _
    refine XS.iloadN X0.here hx rfl (hb hby at_21) rfl ?_
    show Steps p.tables e below (s₁.setTop (mkF m 22 #[.val (.int p1), .val (.int ((p1 &&& (2147483647 : Int32)) % (6 : Int32))), .unset, .unset, .unset] [(.int ((p1 &&& (2147483647 : Int32)) % (6 : Int32)))])) _
    refine XS.iconst X0.here hx rfl (hb hby at_22) ?_
    show Steps p.tables e below (s₁.setTop (mkF m 23 #[.val (.int p1), .val (.int ((p1 &&& (2147483647 : Int32)) % (6 : Int32))), .unset, .unset, .unset] [(.int (1 : Int32)), (.int ((p1 &&& (2147483647 : Int32)) % (6 : Int32)))])) _
    refine XS.icmpYes X0.here hx rfl (pc0 := 23) (pc' := 35) rfl (hb hby at_23) rfl (feq hc23).2 (by decide) (by decide) ?_
    show Steps p.tables e below (s₁.setTop (mkF m 35 #[.val (.int p1), .val (.int ((p1 &&& (2147483647 : Int32)) % (6 : Int32))), .unset, .unset, .unset] [])) _
    refine XS.iloadN X0.here hx rfl (hb hby at_35) rfl ?_
    show Steps p.tables e below (s₁.setTop (mkF m 36 #[.val (.int p1), .val (.int ((p1 &&& (2147483647 : Int32)) % (6 : Int32))), .unset, .unset, .unset] [(.int ((p1 &&& (2147483647 : Int32)) % (6 : Int32)))])) _
    refine XS.iconst X0.here hx rfl (hb hby at_36) ?_
    show Steps p.tables e below (s₁.setTop (mkF m 37 #[.val (.int p1), .val (.int ((p1 &&& (2147483647 : Int32)) % (6 : Int32))), .unset, .unset, .unset] [(.int (2 : Int32)), (.int ((p1 &&& (2147483647 : Int32)) % (6 : Int32)))])) _
    refine XS.icmpYes X0.here hx rfl (pc0 := 37) (pc' := 49) rfl (hb hby at_37) rfl (feq hc37).2 (by decide) (by decide) ?_
    show Steps p.tables e below (s₁.setTop (mkF m 49 #[.val (.int p1), .val (.int ((p1 &&& (2147483647 : Int32)) % (6 : Int32))), .unset, .unset, .unset] [])) _
    refine XS.iloadN X0.here hx rfl (hb hby at_49) rfl ?_
    show Steps p.tables e below (s₁.setTop (mkF m 50 #[.val (.int p1), .val (.int ((p1 &&& (2147483647 : Int32)) % (6 : Int32))), .unset, .unset, .unset] [(.int ((p1 &&& (2147483647 : Int32)) % (6 : Int32)))])) _
    refine XS.iconst X0.here hx rfl (hb hby at_50) ?_
    show Steps p.tables e below (s₁.setTop (mkF m 51 #[.val (.int p1), .val (.int ((p1 &&& (2147483647 : Int32)) % (6 : Int32))), .unset, .unset, .unset] [(.int (3 : Int32)), (.int ((p1 &&& (2147483647 : Int32)) % (6 : Int32)))])) _
    refine XS.icmpYes X0.here hx rfl (pc0 := 51) (pc' := 63) rfl (hb hby at_51) rfl (feq hc51).2 (by decide) (by decide) ?_
    show Steps p.tables e below (s₁.setTop (mkF m 63 #[.val (.int p1), .val (.int ((p1 &&& (2147483647 : Int32)) % (6 : Int32))), .unset, .unset, .unset] [])) _
    refine XS.iloadN X0.here hx rfl (hb hby at_63) rfl ?_
    show Steps p.tables e below (s₁.setTop (mkF m 64 #[.val (.int p1), .val (.int ((p1 &&& (2147483647 : Int32)) % (6 : Int32))), .unset, .unset, .unset] [(.int ((p1 &&& (2147483647 : Int32)) % (6 : Int32)))])) _
    refine XS.iconst X0.here hx rfl (hb hby at_64) ?_
    show Steps p.tables e below (s₁.setTop (mkF m 65 #[.val (.int p1), .val (.int ((p1 &&& (2147483647 : Int32)) % (6 : Int32))), .unset, .unset, .unset] [(.int (4 : Int32)), (.int ((p1 &&& (2147483647 : Int32)) % (6 : Int32)))])) _
    refine XS.icmpYes X0.here hx rfl (pc0 := 65) (pc' := 77) rfl (hb hby at_65) rfl (feq hc65).2 (by decide) (by decide) ?_
    show Steps p.tables e below (s₁.setTop (mkF m 77 #[.val (.int p1), .val (.int ((p1 &&& (2147483647 : Int32)) % (6 : Int32))), .unset, .unset, .unset] [])) _
    refine st3 _ ?_
    show Steps p.tables e below (T3.setTop (mkF m 80 #[.val (.int p1), .val (.int ((p1 &&& (2147483647 : Int32)) % (6 : Int32))), .unset, .unset, .unset] [(.ref w2)])) _
    refine XS.astoreN X3.here hx rfl (hb hby at_80) rfl rfl (l' := #[.val (.int p1), .val (.int ((p1 &&& (2147483647 : Int32)) % (6 : Int32))), .val (.ref w2), .unset, .unset]) rfl ?_
    show Steps p.tables e below (T3.setTop (mkF m 81 #[.val (.int p1), .val (.int ((p1 &&& (2147483647 : Int32)) % (6 : Int32))), .val (.ref w2), .unset, .unset] [])) _
    refine XS.iconst X3.here hx rfl (hb hby at_81) ?_
    show Steps p.tables e below (T3.setTop (mkF m 82 #[.val (.int p1), .val (.int ((p1 &&& (2147483647 : Int32)) % (6 : Int32))), .val (.ref w2), .unset, .unset] [(.int (1 : Int32))])) _
    refine XS.istoreN X3.here hx rfl (hb hby at_82) rfl (l' := #[.val (.int p1), .val (.int ((p1 &&& (2147483647 : Int32)) % (6 : Int32))), .val (.ref w2), .val (.int (1 : Int32)), .unset]) rfl ?_
    show Steps p.tables e below (T3.setTop (mkF m 83 #[.val (.int p1), .val (.int ((p1 &&& (2147483647 : Int32)) % (6 : Int32))), .val (.ref w2), .val (.int (1 : Int32)), .unset] [])) _
    refine XS.aloadN X3.here hx rfl (hb hby at_83) rfl rfl ?_
    show Steps p.tables e below (T3.setTop (mkF m 84 #[.val (.int p1), .val (.int ((p1 &&& (2147483647 : Int32)) % (6 : Int32))), .val (.ref w2), .val (.int (1 : Int32)), .unset] [(.ref w2)])) _
    refine st4.trans ?_
    show Steps p.tables e below (T4.setTop (mkF m 87 #[.val (.int p1), .val (.int ((p1 &&& (2147483647 : Int32)) % (6 : Int32))), .val (.ref w2), .val (.int (1 : Int32)), .unset] [(.int r4)])) _
    refine XS.istore X4.here hx rfl (hb hby at_87) rfl (l' := #[.val (.int p1), .val (.int ((p1 &&& (2147483647 : Int32)) % (6 : Int32))), .val (.ref w2), .val (.int (1 : Int32)), .val (.int r4)]) rfl ?_
    show Steps p.tables e below (T4.setTop (mkF m 89 #[.val (.int p1), .val (.int ((p1 &&& (2147483647 : Int32)) % (6 : Int32))), .val (.ref w2), .val (.int (1 : Int32)), .val (.int r4)] [])) _
    refine XS.iload X4.here hx rfl (hb hby at_89) rfl ?_
    show Steps p.tables e below (T4.setTop (mkF m 91 #[.val (.int p1), .val (.int ((p1 &&& (2147483647 : Int32)) % (6 : Int32))), .val (.ref w2), .val (.int (1 : Int32)), .val (.int r4)] [(.int r4)])) _
    refine XS.iloadN X4.here hx rfl (hb hby at_91) rfl ?_
    show Steps p.tables e below (T4.setTop (mkF m 92 #[.val (.int p1), .val (.int ((p1 &&& (2147483647 : Int32)) % (6 : Int32))), .val (.ref w2), .val (.int (1 : Int32)), .val (.int r4)] [(.int (1 : Int32)), (.int r4)])) _
    refine XS.icmpNo X4.here hx rfl (hb hby at_92) rfl (teq hx1).2 ?_
    show Steps p.tables e below (T4.setTop (mkF m 95 #[.val (.int p1), .val (.int ((p1 &&& (2147483647 : Int32)) % (6 : Int32))), .val (.ref w2), .val (.int (1 : Int32)), .val (.int r4)] [])) _
    refine XS.iload X4.here hx rfl (hb hby at_95) rfl ?_
    show Steps p.tables e below (T4.setTop (mkF m 97 #[.val (.int p1), .val (.int ((p1 &&& (2147483647 : Int32)) % (6 : Int32))), .val (.ref w2), .val (.int (1 : Int32)), .val (.int r4)] [(.int r4)])) _
    refine XS.aloadN X4.here hx rfl (hb hby at_97) rfl rfl ?_
    show Steps p.tables e below (T4.setTop (mkF m 98 #[.val (.int p1), .val (.int ((p1 &&& (2147483647 : Int32)) % (6 : Int32))), .val (.ref w2), .val (.int (1 : Int32)), .val (.int r4)] [(.ref w2), (.int r4)])) _
    refine st5.trans ?_
    show Steps p.tables e below (T5.setTop (mkF m 101 #[.val (.int p1), .val (.int ((p1 &&& (2147483647 : Int32)) % (6 : Int32))), .val (.ref w2), .val (.int (1 : Int32)), .val (.int r4)] [(.ref r5), (.int r4)])) _
    refine XS.ifnullNo X5.here hx rfl (hb hby at_101) rfl ?_
    show Steps p.tables e below (T5.setTop (mkF m 104 #[.val (.int p1), .val (.int ((p1 &&& (2147483647 : Int32)) % (6 : Int32))), .val (.ref w2), .val (.int (1 : Int32)), .val (.int r4)] [(.int r4)])) _
    refine XS.iconst X5.here hx rfl (hb hby at_104) ?_
    show Steps p.tables e below (T5.setTop (mkF m 105 #[.val (.int p1), .val (.int ((p1 &&& (2147483647 : Int32)) % (6 : Int32))), .val (.ref w2), .val (.int (1 : Int32)), .val (.int r4)] [(.int (1 : Int32)), (.int r4)])) _
    refine XS.goto X5.here hx rfl (pc0 := 105) (pc' := 109) rfl (hb hby at_105) (by decide) (by decide) ?_
    show Steps p.tables e below (T5.setTop (mkF m 109 #[.val (.int p1), .val (.int ((p1 &&& (2147483647 : Int32)) % (6 : Int32))), .val (.ref w2), .val (.int (1 : Int32)), .val (.int r4)] [(.int (1 : Int32)), (.int r4)])) _
    refine XS.icmpNo X5.here hx rfl (hb hby at_109) rfl (teq hx2).2 ?_
    show Steps p.tables e below (T5.setTop (mkF m 112 #[.val (.int p1), .val (.int ((p1 &&& (2147483647 : Int32)) % (6 : Int32))), .val (.ref w2), .val (.int (1 : Int32)), .val (.int r4)] [])) _
    refine XS.iconst X5.here hx rfl (hb hby at_112) ?_
    show Steps p.tables e below (T5.setTop (mkF m 113 #[.val (.int p1), .val (.int ((p1 &&& (2147483647 : Int32)) % (6 : Int32))), .val (.ref w2), .val (.int (1 : Int32)), .val (.int r4)] [(.int (1 : Int32))])) _
    refine XS.goto X5.here hx rfl (pc0 := 113) (pc' := 117) rfl (hb hby at_113) (by decide) (by decide) ?_
    show Steps p.tables e below (T5.setTop (mkF m 117 #[.val (.int p1), .val (.int ((p1 &&& (2147483647 : Int32)) % (6 : Int32))), .val (.ref w2), .val (.int (1 : Int32)), .val (.int r4)] [(.int (1 : Int32))])) _
    exact retN X5 hx (t := .boolean) Bd.returns (by simp) (hb hby at_117) hr
  · show Q0_tttttfff Z p1 w2 h0 n0 _ T5.heap _
    exact ⟨rfl, N5⟩
set_option maxRecDepth 65536 in
set_option maxHeartbeats 40000000 in
theorem comes_1 {Post : Tables → Env → Array Value → State → Outcome → State → Prop} (hpost : ∀ tb e args s v u, (limb_1_1.after args s (.returned v) u = true ∧ limb_1_2.after args s (.returned v) u = true ∧ True) → FrameEnd s (.returned v) u (Jvm.fieldLocs frame_1_writes args s ++ Jvm.arrayLocs frame_1_arrays args s ++ Jvm.staticLocs frame_1_statics s) 0 0 → Post tb e args s (.returned v) u) :
    ArmFor flags0 classFile x code maxLocals ret World_1 tables_1 room_1 Calls_1 rest_1 Pre_1 Post := by
  intro l hfl _ _ p e ha hc hk s m args below hf hA hF happ hP
  obtain ⟨hcalls, hrest, hpre⟩ := hP
  obtain ⟨-, -, -, hnamed, -, -, -, hat⟩ := (Spec.applies_iff hf).mp happ
  obtain ⟨hg, hn⟩ := and_e (Cond.before_iff.mp (show (Jvm.Cond.and given_1 narrow_1).before args s = true from hpre))
  obtain ⟨g0, hg⟩ := and_e hg
  have g1 := hg
  obtain ⟨w0, rfl⟩ : ∃ w0 : Value, args = #[w0] := by
    have hs : args.size = 1 := by simpa [Cond.value, given_1] using g0
    obtain ⟨L⟩ := args
    match L, hs with
    | [w0], _ => exact ⟨w0, rfl⟩
  obtain ⟨i0, ei0⟩ := is_v g1
  obtain rfl : w0 = (.int i0) := Option.some.inj ei0
  have hw := fun d (hd : d ∈ tables_1) => atoms_spec (ws := Jvm.Cond.code x code maxLocals ret :: tables_1) hat d (List.mem_cons_of_mem _ hd)
  obtain ⟨c0, hn⟩ := and_e hn
  obtain ⟨c1, hn⟩ := and_e hn
  obtain ⟨c2, hn⟩ := and_e hn
  obtain ⟨c3, hn⟩ := and_e hn
  obtain ⟨c4, hn⟩ := and_e hn
  obtain ⟨c5, hn⟩ := and_e hn
  obtain ⟨c6, hn⟩ := and_e hn
  obtain ⟨c7, hn⟩ := and_e hn
  obtain ⟨c8, hn⟩ := and_e hn
  obtain ⟨c9, hn⟩ := and_e hn
  obtain ⟨c10, hn⟩ := and_e hn
  have c11 := hn
  obtain ⟨w_BIGINT, ev_BIGINT⟩ := exa_v c0
  have E_BIGINT := Exa.start ev_BIGINT c0
  have S_BIGINT := Sta.start ev_BIGINT (Or.inr ⟨(hw _ (List.mem_of_getElem? (i := 2) rfl)), (hw _ (List.mem_of_getElem? (i := 3) rfl))⟩)
  obtain ⟨w_BIGINT_ARRAY, ev_BIGINT_ARRAY⟩ := exa_v c2
  have E_BIGINT_ARRAY := Exa.start ev_BIGINT_ARRAY c2
  have S_BIGINT_ARRAY := Sta.start ev_BIGINT_ARRAY (Or.inr ⟨(hw _ (List.mem_of_getElem? (i := 2) rfl)), (hw _ (List.mem_of_getElem? (i := 17) rfl))⟩)
  obtain ⟨w_VARCHAR, ev_VARCHAR⟩ := exa_v c4
  have E_VARCHAR := Exa.start ev_VARCHAR c4
  have S_VARCHAR := Sta.start ev_VARCHAR (Or.inr ⟨(hw _ (List.mem_of_getElem? (i := 2) rfl)), (hw _ (List.mem_of_getElem? (i := 19) rfl))⟩)
  obtain ⟨w_DOUBLE, ev_DOUBLE⟩ := exa_v c6
  have E_DOUBLE := Exa.start ev_DOUBLE c6
  have S_DOUBLE := Sta.start ev_DOUBLE (Or.inr ⟨(hw _ (List.mem_of_getElem? (i := 2) rfl)), (hw _ (List.mem_of_getElem? (i := 21) rfl))⟩)
  obtain ⟨w_VARCHAR_ARRAY, ev_VARCHAR_ARRAY⟩ := exa_v c8
  have E_VARCHAR_ARRAY := Exa.start ev_VARCHAR_ARRAY c8
  have S_VARCHAR_ARRAY := Sta.start ev_VARCHAR_ARRAY (Or.inr ⟨(hw _ (List.mem_of_getElem? (i := 2) rfl)), (hw _ (List.mem_of_getElem? (i := 23) rfl))⟩)
  obtain ⟨w_DOUBLE_ARRAY, ev_DOUBLE_ARRAY⟩ := exa_v c10
  have E_DOUBLE_ARRAY := Exa.start ev_DOUBLE_ARRAY c10
  have S_DOUBLE_ARRAY := Sta.start ev_DOUBLE_ARRAY (Or.inr ⟨(hw _ (List.mem_of_getElem? (i := 2) rfl)), (hw _ (List.mem_of_getElem? (i := 25) rfl))⟩)
  have F_BIGINT_element := own_fldN ev_BIGINT c1
  have F_BIGINT_ARRAY_element := own_fldR ev_BIGINT_ARRAY ev_BIGINT c3
  have F_VARCHAR_element := own_fldN ev_VARCHAR c5
  have F_DOUBLE_element := own_fldN ev_DOUBLE c7
  have F_VARCHAR_ARRAY_element := own_fldR ev_VARCHAR_ARRAY ev_VARCHAR c9
  have F_DOUBLE_ARRAY_element := own_fldR ev_DOUBLE_ARRAY ev_DOUBLE c11
  have key : MetFree l x (head1 (Jvm.Cond.code x code maxLocals ret :: tables_1) room_1) (fun a U => a = #[(.int i0)] ∧ s.Warmed39 U.vm ∧ U.heap = s.heap) (fun _ _ _ _ _ => True) (fun _ U o U' => ∃ v L, o = .returned v ∧ (v = some (.int (1 : Int32)) ∧ Fr s.heap.size L) ∧ FrameEnd U o U' L room_1.cells room_1.slots) := by
    rcases own_k i0 with hv | hv | hv | hv | hv | hv
    · exact rm0_n101_fftf l s _ hw tables_1 i0 w_BIGINT (0 : Int32) s.heap s.heap.size (Nat.le_refl _) S_BIGINT E_BIGINT (by rw [hv] <;> decide) (Or.inr ⟨F_BIGINT_element, rfl⟩) (Or.inr ⟨F_BIGINT_element, rfl⟩) (by decide) (by decide)
    · exact rm0_n101_tfftf l s _ hw tables_1 i0 w_DOUBLE (0 : Int32) s.heap s.heap.size (Nat.le_refl _) S_DOUBLE E_DOUBLE (by rw [hv] <;> decide) (by rw [hv] <;> decide) (Or.inr ⟨F_DOUBLE_element, rfl⟩) (Or.inr ⟨F_DOUBLE_element, rfl⟩) (by decide) (by decide)
    · exact rm0_n101_ttfftf l s _ hw tables_1 i0 w_VARCHAR (0 : Int32) s.heap s.heap.size (Nat.le_refl _) S_VARCHAR E_VARCHAR (by rw [hv] <;> decide) (by rw [hv] <;> decide) (by rw [hv] <;> decide) (Or.inr ⟨F_VARCHAR_element, rfl⟩) (Or.inr ⟨F_VARCHAR_element, rfl⟩) (by decide) (by decide)
    · exact rm0_tttffff l s _ hw tables_1 i0 w_BIGINT_ARRAY (1 : Int32) w_BIGINT s.heap s.heap.size (Nat.le_refl _) S_BIGINT_ARRAY E_BIGINT_ARRAY (by rw [hv] <;> decide) (by rw [hv] <;> decide) (by rw [hv] <;> decide) (by rw [hv] <;> decide) (Or.inl ⟨w_BIGINT, F_BIGINT_ARRAY_element, rfl⟩) (Or.inl ⟨w_BIGINT, F_BIGINT_ARRAY_element, rfl⟩) (by decide) (by decide)
    · exact rm0_ttttffff l s _ hw tables_1 i0 w_DOUBLE_ARRAY (1 : Int32) w_DOUBLE s.heap s.heap.size (Nat.le_refl _) S_DOUBLE_ARRAY E_DOUBLE_ARRAY (by rw [hv] <;> decide) (by rw [hv] <;> decide) (by rw [hv] <;> decide) (by rw [hv] <;> decide) (by rw [hv] <;> decide) (Or.inl ⟨w_DOUBLE, F_DOUBLE_ARRAY_element, rfl⟩) (Or.inl ⟨w_DOUBLE, F_DOUBLE_ARRAY_element, rfl⟩) (by decide) (by decide)
    · exact rm0_tttttfff l s _ hw tables_1 i0 w_VARCHAR_ARRAY (1 : Int32) w_VARCHAR s.heap s.heap.size (Nat.le_refl _) S_VARCHAR_ARRAY E_VARCHAR_ARRAY (by rw [hv] <;> decide) (by rw [hv] <;> decide) (by rw [hv] <;> decide) (by rw [hv] <;> decide) (by rw [hv] <;> decide) (Or.inl ⟨w_VARCHAR, F_VARCHAR_ARRAY_element, rfl⟩) (Or.inl ⟨w_VARCHAR, F_VARCHAR_ARRAY_element, rfl⟩) (by decide) (by decide)
  obtain ⟨n, o, h1, h2, h3, _, L, rfl, ⟨rfl, N⟩, hq⟩ := key p e ha hc hk s m _ below hf ((Spec.applies_iff_loose hf).mp happ).1 ⟨rfl, State.Warmed39.refl s, rfl⟩ trivial
  refine ⟨n, _, h1, h2, h3, hpost _ _ _ _ _ _ ⟨Cond.after_iff.mpr rfl, Cond.after_iff.mpr (eq_i res_at (Term.int_eval (1)) rfl), trivial⟩ ⟨hq.1, hq.2.1, (hq.2.2.sift fun y hy => Or.inr (N y hy)).mono (by decide) (by decide)⟩⟩
theorem main_1_1 : Claimed_1_1 := comes_1 fun _ _ _ _ _ _ h hF => ⟨h.1, hF⟩
theorem main_1_2 : Claimed_1_2 := comes_1 fun _ _ _ _ _ _ h hF => ⟨h.2.1, hF⟩
end Jvm.Pilot.@@N@@
namespace Jvm.Pilot.@@N@@
open Jvm Jvm.ClassFile Sem Op Lib Jvm.Free Jvm.Stand Jvm.Pilot.@@N@@.Jvm.D
/-! MADE BY PROGRAM (witnessworld.py) out of the Statement's table words and the real class files: 12 classes; the members and pool entries that the words name. The judged class is class 1, her method 1. -/
namespace start1
open Jvm.ClassFile
def u (s : String) : CpInfo := .utf8 (stringToUtf16 s)
/-- a pool by its gaps: so many unusable entries, then the entry; so many at the end -/
def gap : Nat → List CpInfo → List CpInfo
  | 0, r => r
  | n + 1, r => .unusable :: gap n r
def poolList (es : List (Nat × CpInfo)) (last : Nat) : List CpInfo := es.foldr (fun e r => gap e.1 (e.2 :: r)) (gap last [])
def pool (es : List (Nat × CpInfo)) (last : Nat) : Array CpInfo := ⟨poolList es last⟩
def fileOf (pool : Array CpInfo) (this : Nat) (attrs : Array Attribute := #[]) (ms : Array MethodInfo := #[]) (fl : Nat := 33) (sup : Nat := 0) (ifs : Array Nat := #[]) (fds : Array FieldInfo := #[]) : ClassFile where
  minorVersion := 0
  majorVersion := 65
  constantPool := pool
  accessFlags := fl
  thisClass := this
  superClass := sup
  interfaces := ifs
  fields := fds
  methods := ms
  attributes := attrs
def plain (name : String) (sup : Option ClassId) : Class where
  name := name
  kind := .ordinary
  loader := none
  accessFlags := 33
  super := sup
  interfaces := #[]
  cf := none
  fields := #[]
  methods := #[]
  instanceTypes := #[]
  staticTypes := #[]
  resolved := #[]
  callSites := []
  init := .initialized
  statics := none
  mirror := none

def pool0 : Array CpInfo := pool [(5, u "<init>"), (0, u "()V"), (1, .class_ 10), (1, u "java/lang/Object")] 113

def k0m0 : Method := { name := "<init>", desc := "()V", sig := { parameters := [], returnType := none }, accessFlags := 1, code := none }
/-- java/lang/Object -/
def k0 : Class := { plain "java/lang/Object" none with
  accessFlags := 33
  interfaces := #[]
  cf := some (fileOf pool0 8 #[] #[{ accessFlags := 1, nameIndex := 5, descriptorIndex := 6, attributes := #[] }] 33 0 #[] #[])
  fields := #[]
  methods := #[k0m0]
  instanceTypes := #[]
  staticTypes := #[]
  resolved := Array.replicate 124 none
  statics := none }

def pool1 : Array CpInfo := pool [(2, .class_ 4), (1, u "java/lang/Object"), (0, u "<init>"), (0, u "()V"), (0, .integer 2147483647), (0, .fieldref 9 10), (0, .class_ 11), (0, .nameAndType 12 13), (0, u "com/example/indexwright/indexwright/sql/ColumnType"), (0, u "BIGINT"), (0, u "Lcom/example/indexwright/indexwright/sql/ColumnType;"), (0, .fieldref 9 15), (0, .nameAndType 16 13), (0, u "DOUBLE"), (0, .fieldref 9 18), (0, .nameAndType 19 13), (0, u "VARCHAR"), (0, .fieldref 9 21), (0, .nameAndType 22 13), (0, u "BIGINT_ARRAY"), (0, .fieldref 9 24), (0, .nameAndType 25 13), (0, u "DOUBLE_ARRAY"), (0, .fieldref 9 27), (0, .nameAndType 28 13), (0, u "VARCHAR_ARRAY"), (0, .methodref 9 30), (0, .nameAndType 31 32), (0, u "isArray"), (0, u "()Z"), (0, .methodref 9 34), (0, .nameAndType 35 36), (0, u "element"), (0, u "()Lcom/example/indexwright/indexwright/sql/ColumnType;"), (0, .class_ 38), (0, u "com/example/indexwright/indexwright/sql/ColumnTypeIsArrayPinLaw"), (2, u "law"), (0, u "(I)Z")] 3

def k1m0 : Method := { name := "<init>", desc := "()V", sig := { parameters := [], returnType := none }, accessFlags := 2, code := none }
def k1c1 : Code := { maxStack := 2, maxLocals := 5, code := code, exceptionTable := #[], attributes := #[] }
def k1m1 : Method := { name := "law", desc := "(I)Z", sig := { parameters := [.int], returnType := some .boolean }, accessFlags := 9, code := some k1c1 }
/-- com/example/indexwright/indexwright/sql/ColumnTypeIsArrayPinLaw -/
def k1 : Class := { plain "com/example/indexwright/indexwright/sql/ColumnTypeIsArrayPinLaw" (some 0) with
  accessFlags := 49
  interfaces := #[]
  cf := some (fileOf pool1 37 #[] #[{ accessFlags := 2, nameIndex := 5, descriptorIndex := 6, attributes := #[] }, { accessFlags := 9, nameIndex := 41, descriptorIndex := 42, attributes := #[] }] 49 2 #[] #[])
  fields := #[]
  methods := #[k1m0, k1m1]
  instanceTypes := #[]
  staticTypes := #[]
  resolved := Array.replicate 46 none
  statics := none }

def pool2 : Array CpInfo := pool [(1, .class_ 2), (0, u "java/lang/constant/Constable"), (0, .class_ 4), (0, u "java/lang/Object")] 6

/-- java/lang/constant/Constable -/
def k2 : Class := { plain "java/lang/constant/Constable" (some 0) with
  accessFlags := 1537
  interfaces := #[]
  cf := some (fileOf pool2 1 #[] #[] 1537 3 #[] #[])
  fields := #[]
  methods := #[]
  instanceTypes := #[]
  staticTypes := #[]
  resolved := Array.replicate 11 none
  statics := none }

def pool3 : Array CpInfo := pool [(1, .class_ 2), (0, u "java/lang/Comparable"), (0, .class_ 4), (0, u "java/lang/Object")] 7

/-- java/lang/Comparable -/
def k3 : Class := { plain "java/lang/Comparable" (some 0) with
  accessFlags := 1537
  interfaces := #[]
  cf := some (fileOf pool3 1 #[] #[] 1537 3 #[] #[])
  fields := #[]
  methods := #[]
  instanceTypes := #[]
  staticTypes := #[]
  resolved := Array.replicate 12 none
  statics := none }

def pool4 : Array CpInfo := pool [(1, .class_ 2), (0, u "java/io/Serializable"), (0, .class_ 4), (0, u "java/lang/Object")] 2

/-- java/io/Serializable -/
def k4 : Class := { plain "java/io/Serializable" (some 0) with
  accessFlags := 1537
  interfaces := #[]
  cf := some (fileOf pool4 1 #[] #[] 1537 3 #[] #[])
  fields := #[]
  methods := #[]
  instanceTypes := #[]
  staticTypes := #[]
  resolved := Array.replicate 7 none
  statics := none }

def pool5 : Array CpInfo := pool [(2, .class_ 4), (1, u "java/lang/Enum"), (0, u "name"), (0, u "Ljava/lang/String;"), (2, u "ordinal"), (0, u "I"), (1, .class_ 14), (1, u "java/lang/Object"), (4, u "hash"), (86, .class_ 108), (1, u "java/lang/Enum$EnumDesc"), (2, .class_ 112), (0, u "java/lang/constant/Constable"), (0, .class_ 114), (0, u "java/lang/Comparable"), (0, .class_ 116), (0, u "java/io/Serializable")] 87

/-- java/lang/Enum -/
def k5 : Class := { plain "java/lang/Enum" (some 0) with
  accessFlags := 1057
  interfaces := #[2, 3, 4]
  cf := some (fileOf pool5 2 #[.nestMembers #[106]] #[] 1057 12 #[111, 113, 115] #[{ accessFlags := 18, nameIndex := 5, descriptorIndex := 6, attributes := #[] }, { accessFlags := 18, nameIndex := 9, descriptorIndex := 10, attributes := #[] }, { accessFlags := 2, nameIndex := 19, descriptorIndex := 10, attributes := #[] }])
  fields := #[{ name := "name", type := (.object "java/lang/String"), accessFlags := 18, slot := 0, constantValue := 0 }, { name := "ordinal", type := .int, accessFlags := 18, slot := 1, constantValue := 0 }, { name := "hash", type := .int, accessFlags := 2, slot := 2, constantValue := 0 }]
  methods := #[]
  instanceTypes := #[(.object "java/lang/String"), .int, .int]
  staticTypes := #[]
  resolved := Array.replicate 204 none
  statics := none }

def pool6 : Array CpInfo := pool [(1, .class_ 2), (0, u "com/example/indexwright/indexwright/sql/ColumnType"), (2, u "BIGINT"), (0, u "Lcom/example/indexwright/indexwright/sql/ColumnType;"), (2, u "DOUBLE"), (2, u "VARCHAR"), (2, u "BIGINT_ARRAY"), (2, u "DOUBLE_ARRAY"), (2, u "VARCHAR_ARRAY"), (2, u "$VALUES"), (0, u "[Lcom/example/indexwright/indexwright/sql/ColumnType;"), (6, .class_ 34), (1, u "java/lang/Enum"), (6, .fieldref 1 42), (0, .nameAndType 43 6), (0, u "element"), (20, u "isArray"), (0, u "()Z"), (124, u "()Lcom/example/indexwright/indexwright/sql/ColumnType;")] 111

def k6c0 : Code := { maxStack := 1, maxLocals := 1, code := prog_54_method_4_code, exceptionTable := #[], attributes := #[] }
def k6m0 : Method := { name := "element", desc := "()Lcom/example/indexwright/indexwright/sql/ColumnType;", sig := { parameters := [], returnType := some (.object "com/example/indexwright/indexwright/sql/ColumnType") }, accessFlags := 1, code := some k6c0 }
def k6c1 : Code := { maxStack := 1, maxLocals := 1, code := prog_54_method_5_code, exceptionTable := #[], attributes := #[] }
def k6m1 : Method := { name := "isArray", desc := "()Z", sig := { parameters := [], returnType := some .boolean }, accessFlags := 1, code := some k6c1 }
/-- com/example/indexwright/indexwright/sql/ColumnType -/
def k6 : Class := { plain "com/example/indexwright/indexwright/sql/ColumnType" (some 5) with
  accessFlags := 16433
  interfaces := #[]
  cf := some (fileOf pool6 1 #[] #[{ accessFlags := 1, nameIndex := 43, descriptorIndex := 190, attributes := #[] }, { accessFlags := 1, nameIndex := 64, descriptorIndex := 65, attributes := #[] }] 16433 32 #[] #[{ accessFlags := 16409, nameIndex := 5, descriptorIndex := 6, attributes := #[] }, { accessFlags := 16409, nameIndex := 9, descriptorIndex := 6, attributes := #[] }, { accessFlags := 16409, nameIndex := 12, descriptorIndex := 6, attributes := #[] }, { accessFlags := 16409, nameIndex := 15, descriptorIndex := 6, attributes := #[] }, { accessFlags := 16409, nameIndex := 18, descriptorIndex := 6, attributes := #[] }, { accessFlags := 16409, nameIndex := 21, descriptorIndex := 6, attributes := #[] }, { accessFlags := 18, nameIndex := 43, descriptorIndex := 6, attributes := #[] }, { accessFlags := 4122, nameIndex := 24, descriptorIndex := 25, attributes := #[] }])
  fields := #[{ name := "BIGINT", type := (.object "com/example/indexwright/indexwright/sql/ColumnType"), accessFlags := 16409, slot := 0, constantValue := 0 }, { name := "DOUBLE", type := (.object "com/example/indexwright/indexwright/sql/ColumnType"), accessFlags := 16409, slot := 1, constantValue := 0 }, { name := "VARCHAR", type := (.object "com/example/indexwright/indexwright/sql/ColumnType"), accessFlags := 16409, slot := 2, constantValue := 0 }, { name := "BIGINT_ARRAY", type := (.object "com/example/indexwright/indexwright/sql/ColumnType"), accessFlags := 16409, slot := 3, constantValue := 0 }, { name := "DOUBLE_ARRAY", type := (.object "com/example/indexwright/indexwright/sql/ColumnType"), accessFlags := 16409, slot := 4, constantValue := 0 }, { name := "VARCHAR_ARRAY", type := (.object "com/example/indexwright/indexwright/sql/ColumnType"), accessFlags := 16409, slot := 5, constantValue := 0 }, { name := "element", type := (.object "com/example/indexwright/indexwright/sql/ColumnType"), accessFlags := 18, slot := 3, constantValue := 0 }, { name := "$VALUES", type := (.array (.object "com/example/indexwright/indexwright/sql/ColumnType")), accessFlags := 4122, slot := 6, constantValue := 0 }]
  methods := #[k6m0, k6m1]
  instanceTypes := #[(.object "java/lang/String"), .int, .int, (.object "com/example/indexwright/indexwright/sql/ColumnType")]
  staticTypes := #[(.object "com/example/indexwright/indexwright/sql/ColumnType"), (.object "com/example/indexwright/indexwright/sql/ColumnType"), (.object "com/example/indexwright/indexwright/sql/ColumnType"), (.object "com/example/indexwright/indexwright/sql/ColumnType"), (.object "com/example/indexwright/indexwright/sql/ColumnType"), (.object "com/example/indexwright/indexwright/sql/ColumnType"), (.array (.object "com/example/indexwright/indexwright/sql/ColumnType"))]
  resolved := Array.replicate 302 none
  statics := some 0 }

def pool7 : Array CpInfo := pool [(1, u "java/lang/Cloneable"), (0, .class_ 1), (0, u "java/lang/Object"), (0, .class_ 3)] 3

/-- java/lang/Cloneable -/
def k7 : Class := { plain "java/lang/Cloneable" (some 0) with
  accessFlags := 1537
  interfaces := #[]
  cf := some (fileOf pool7 2 #[] #[] 1537 4 #[] #[])
  fields := #[]
  methods := #[]
  instanceTypes := #[]
  staticTypes := #[]
  resolved := Array.replicate 8 none
  statics := none }

/-- the primitive byte -/
def k8 : Class := { plain "byte" none with kind := .primitive 'B', accessFlags := 0x411 }
/-- [B -/
def k9 : Class := { plain "[B" (some 0) with kind := .array 8 .byte, interfaces := #[7, 4], accessFlags := 1041 }

/-- the primitive int -/
def k10 : Class := { plain "int" none with kind := .primitive 'I', accessFlags := 0x411 }
/-- [I -/
def k11 : Class := { plain "[I" (some 0) with kind := .array 10 .int, interfaces := #[7, 4], accessFlags := 1041 }

def heap : Heap := #[{ cls := 6, slots := #[.ref 1, .ref 4, .ref 3, .ref 2, .ref 6, .ref 5, .null], vm := .statics 6 },
  { cls := 6, slots := #[.null, .int 0, .int 0, .null], vm := .none },
  { cls := 6, slots := #[.null, .int 0, .int 0, .ref 1], vm := .none },
  { cls := 6, slots := #[.null, .int 0, .int 0, .null], vm := .none },
  { cls := 6, slots := #[.null, .int 0, .int 0, .null], vm := .none },
  { cls := 6, slots := #[.null, .int 0, .int 0, .ref 3], vm := .none },
  { cls := 6, slots := #[.null, .int 0, .int 0, .ref 4], vm := .none }]
def classes : Array Class := #[k0, k1, k2, k3, k4, k5, k6, k7, k8, k9, k10, k11]
def interned : List (Array UInt16 × Addr) := []
def slotsUsed : Nat := 31
def theMethod : MethodId := ⟨1, 1⟩
def args0 : Array Value := #[.int 5]
def aboutOver (below : List Frame) : State where
  vm := { classes := classes, interned := interned.toArray }
  heap := heap
  slotsUsed := slotsUsed
  threads := #[{ frames := .invoking theMethod args0 :: below }]
def below0 : List Frame := [.native { method := ⟨0, 0⟩, args := #[] }]
def about1 : State := aboutOver below0
def p0 : Program := .bare "" "" ""
def e0 : Env := launch0.env 0 0 0
theorem w_frames : about1.frames = Frame.invoking theMethod args0 :: below0 := rfl
set_option maxRecDepth 65536 in
theorem w_args : argsFit about1.vm theMethod args0 = true := by decide +kernel
set_option maxRecDepth 65536 in
theorem w_heap : heapFits about1 = true := by decide +kernel
set_option maxRecDepth 65536 in
theorem w_runnable : about1.curStatus? = some .runnable := by decide +kernel
set_option maxRecDepth 65536 in
theorem w_alone : about1.alone = true := by decide +kernel
set_option maxRecDepth 65536 in
theorem w_named : about1.methodNamed? x = some theMethod := by decide +kernel
set_option maxRecDepth 65536 in
theorem w_hears : about1.hears theMethod below0 = true := by decide +kernel
set_option maxRecDepth 65536 in
theorem w_ripe : about1.ripe theMethod args0 below0 = true := by decide +kernel
theorem w_running : about1.status = .running := rfl
set_option maxRecDepth 65536 in
theorem w_room : about1.hasRoom e0.platform room_1 = true :=
  launch0.hasRoom_least _ room_1 (by decide +kernel) (by decide +kernel) (by decide +kernel) (by decide +kernel) (by decide +kernel) (by decide +kernel)
theorem allAtoms_all (ts : List Jvm.Cond) (a : Array Jvm.Value) (st : Jvm.State) : (allAtoms ts).before a st = ts.all (fun c => c.before a st) := by
  induction ts with
  | nil => rfl
  | cons c t ih =>
    show (Jvm.Cond.and c (allAtoms t)).before a st = _
    rw [Jvm.Cond.before_and, ih, List.all_cons]
def words1 : List Jvm.Cond := Jvm.Cond.code x code maxLocals ret :: tables_1
/-- a 'code' word, met by the world's own term for the bytes: nothing is compared byte by byte -/
theorem code_word {y : MethodName} {bytes : ByteArray} {mx : Nat} {rt : Option FieldType} {a : Array Value} {s : State} {m : MethodId} {meth : Method} {c : Code} (h1 : s.methodNamed? y = some m) (h2 : s.vm.method? m = some meth) (h3 : meth.code = some c) (h4 : c.code = bytes)
    (h5 : (c.maxLocals == mx && c.exceptionTable.isEmpty && decide (c.maxStack ≤ mostOperands) && decide (meth.sig.returnType = rt) && !meth.locks && decide (parseMethodDescriptor y.desc = some meth.sig)) = true) : (Jvm.Cond.code y bytes mx rt).before a s = true := by
  simp only [Bool.and_eq_true, beq_iff_eq, Bool.not_eq_true', decide_eq_true_eq] at h5
  obtain ⟨⟨⟨⟨⟨g1, g2⟩, g3⟩, g4⟩, g5⟩, g6⟩ := h5
  simp [Cond.before, Cond.holds, Cond.value, h1, h2, h3, h4, g1, g2, g3, g4, g5, g6]
def isCode : Jvm.Cond → Bool
  | .code _ _ _ _ => true
  | _ => false
theorem all_split {L : List Jvm.Cond} {P : Jvm.Cond → Bool} (h1 : L.all (fun c => isCode c || P c) = true) (h2 : ∀ c ∈ L.filter isCode, P c = true) : L.all P = true := by
  refine List.all_eq_true.mpr fun c hc => ?_
  have h := List.all_eq_true.mp h1 c hc
  rcases Bool.eq_false_or_eq_true (isCode c) with hi | hi
  · exact h2 c (List.mem_filter.mpr ⟨hc, hi⟩)
  · simpa [hi] using h
set_option maxRecDepth 65536 in
theorem w_c0 : (Jvm.Cond.code x code maxLocals ret).before args0 about1 = true := code_word (m := ⟨1, 1⟩) (meth := k1m1) (c := k1c1) (by decide +kernel) rfl rfl rfl (by decide +kernel)
set_option maxRecDepth 65536 in
theorem w_c1 : (Jvm.Cond.code ({ cls := "com/example/indexwright/indexwright/sql/ColumnType", name := "isArray", desc := "()Z" } : Jvm.MethodName) prog_54_method_5_code (1 : Nat) (Option.some Jvm.ClassFile.FieldType.boolean)).before args0 about1 = true := code_word (m := ⟨6, 1⟩) (meth := k6m1) (c := k6c1) (by decide +kernel) rfl rfl rfl (by decide +kernel)
set_option maxRecDepth 65536 in
theorem w_c2 : (Jvm.Cond.code ({ cls := "com/example/indexwright/indexwright/sql/ColumnType", name := "element", desc := "()Lcom/example/indexwright/indexwright/sql/ColumnType;" } : Jvm.MethodName) prog_54_method_4_code (1 : Nat) (Option.some (Jvm.ClassFile.FieldType.object "com/example/indexwright/indexwright/sql/ColumnType"))).before args0 about1 = true := code_word (m := ⟨6, 0⟩) (meth := k6m0) (c := k6c0) (by decide +kernel) rfl rfl rfl (by decide +kernel)
def codes1 : List Jvm.Cond := [Jvm.Cond.code x code maxLocals ret, Jvm.Cond.code ({ cls := "com/example/indexwright/indexwright/sql/ColumnType", name := "isArray", desc := "()Z" } : Jvm.MethodName) prog_54_method_5_code (1 : Nat) (Option.some Jvm.ClassFile.FieldType.boolean), Jvm.Cond.code ({ cls := "com/example/indexwright/indexwright/sql/ColumnType", name := "element", desc := "()Lcom/example/indexwright/indexwright/sql/ColumnType;" } : Jvm.MethodName) prog_54_method_4_code (1 : Nat) (Option.some (Jvm.ClassFile.FieldType.object "com/example/indexwright/indexwright/sql/ColumnType"))]
set_option maxRecDepth 65536 in
theorem codes_eq : words1.filter isCode = codes1 := rfl
theorem w_codes : ∀ c ∈ words1.filter isCode, c.before args0 about1 = true := by
  rw [codes_eq]
  intro c hc
  simp only [codes1, List.mem_cons, List.not_mem_nil, or_false] at hc
  rcases hc with rfl | rfl | rfl
  · exact w_c0
  · exact w_c1
  · exact w_c2
set_option maxRecDepth 65536 in
theorem w_t1 : (words1.take 24).all (fun c => isCode c || c.before args0 about1) = true := by decide +kernel
set_option maxRecDepth 65536 in
theorem w_t2 : (words1.drop 24).all (fun c => isCode c || c.before args0 about1) = true := by decide +kernel
theorem w_tables : (allAtoms (Jvm.Cond.code x code maxLocals ret :: tables_1)).before args0 about1 = true := by
  rw [allAtoms_all]
  show words1.all (fun c => c.before args0 about1) = true
  refine all_split ?_ w_codes
  rw [← List.take_append_drop 24 words1, List.all_append, w_t1, w_t2]
  rfl
set_option maxRecDepth 65536 in
theorem w_case : (Jvm.Cond.and given_1 narrow_1).before args0 about1 = true := by decide +kernel
theorem w_applies : (headSpec (Jvm.Cond.code x code maxLocals ret :: tables_1) room_1).applies x e0.platform about1 = true :=
  (Spec.applies_iff w_frames).mpr ⟨w_running, w_runnable, w_alone, w_named, w_hears, w_ripe, w_room, w_tables⟩
theorem atStart : AtStart classFile x code maxLocals ret World_1 tables_1 room_1 Calls_1 rest_1 Pre_1 launch0 p0 e0 about1 theMethod args0 below0 :=
  ⟨lists_1, trivial, launch0.admits_env _ _ _, launch0.least_env, fairChoices_fair.cas, fairChoices_fair.clock, w_frames, w_args, w_heap, w_applies, trivial, trivial, w_case⟩
end start1
theorem witness_1 : WitnessClaimed_1 := ⟨start1.p0, start1.e0, start1.about1, start1.theMethod, start1.args0, start1.below0, start1.atStart⟩
end Jvm.Pilot.@@N@@
