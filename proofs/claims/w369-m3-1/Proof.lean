import JvmDerived
import JvmDerived.Pilot.@@N@@Statement
import JvmDerived.Pilot.@@N@@Code
set_option linter.unusedVariables false
set_option linter.unusedSimpArgs false
@@BLOCK:NumsL.lean.txt@@
namespace Jvm.Pilot.@@N@@
open Jvm Jvm.ClassFile Sem Op Lib Jvm.Free Jvm.Stand Jvm.LawKit Jvm.RoadKit Bundle Jvm.Pilot.@@N@@.Jvm.D
def OwnQ (r : Option Value) (h0 : Heap) (n0 : Nat) (v : Option Value) (h : Heap) (L : List Loc) : Prop := v = r ∧ Fr n0 L ∧ h = h0
theorem own_fldI {args : Array Value} {s : State} {t : Term} {a : Addr} {C n d : String} {v : Int32} (ev : t.eval args s none [] s = some (.ref a)) (h : (Cond.eq (Term.field t C n d) (Term.int v)).value args s none s [] = some true) : Fld s s.heap a C n d (.int v) := by
  obtain ⟨x, y, hx, hy, k1, k2⟩ := cmp_v (Or.inl h)
  have hy' : y = .int v := (Option.some.inj (hy.symm.trans (Term.int_eval v)))
  subst hy'
  obtain ⟨z, rfl⟩ := k2
  have e : z = v := by
    simp only [Cond.value, hx, hy] at h
    simpa using h
  subst e
  exact Fld.start ((fld_at ev).symm.trans hx)
theorem own_fldN {args : Array Value} {s : State} {t : Term} {a : Addr} {C n d : String} (ev : t.eval args s none [] s = some (.ref a)) (h : (Cond.eq (Term.field t C n d) Term.null).value args s none s [] = some true) : Fld s s.heap a C n d .null :=
  Fld.start ((fld_at ev).symm.trans (null_v h))
theorem own_fldR {args : Array Value} {s : State} {t u : Term} {a b : Addr} {C n d : String} (ev : t.eval args s none [] s = some (.ref a)) (eu : u.eval args s none [] s = some (.ref b)) (h : (Cond.eq (Term.field t C n d) u).value args s none s [] = some true) : Fld s s.heap a C n d (.ref b) := by
  obtain ⟨x, y, hx, hy, k1, k2⟩ := cmp_v (Or.inl h)
  have hy' : y = .ref b := (Option.some.inj (hy.symm.trans eu))
  subst hy'
  have hr : x.isRef = true := by cases x <;> simp_all [Kin, Value.isRef]
  have e : x = .ref b := gotT (eq_R hx hy hr rfl) h
  subst e
  exact Fld.start ((fld_at ev).symm.trans hx)
theorem own_stak {Z : State} {h h' : Heap} {C n d : String} {v : Value} (F : Sta Z h C n d v) (K : Keep h h' []) : Sta Z h' C n d v := by
  obtain ⟨cf, i, k, f, st, cell, h1, h2, h3, h4, h5, h6, h7⟩ := F
  exact ⟨cf, i, k, f, st, cell, h1, h2, h3, h4, K.2.1 _ _ h5 nin0, h6, h7⟩
theorem own_k_n (k : Int32) (h0 : 0 ≤ k.toInt) (h1 : k.toInt < 6) : k = (0 : Int32) ∨ k = (1 : Int32) ∨ k = (2 : Int32) ∨ k = (3 : Int32) ∨ k = (4 : Int32) ∨ k = (5 : Int32) := by
  have h : k.toInt = 0 ∨ k.toInt = 1 ∨ k.toInt = 2 ∨ k.toInt = 3 ∨ k.toInt = 4 ∨ k.toInt = 5 := by omega
  rcases h with h | h | h | h | h | h
  · exact (Or.inl (Int32.toInt_inj.mp (h.trans (by decide))))
  · exact (Or.inr (Or.inl (Int32.toInt_inj.mp (h.trans (by decide)))))
  · exact (Or.inr (Or.inr (Or.inl (Int32.toInt_inj.mp (h.trans (by decide))))))
  · exact (Or.inr (Or.inr (Or.inr (Or.inl (Int32.toInt_inj.mp (h.trans (by decide)))))))
  · exact (Or.inr (Or.inr (Or.inr (Or.inr (Or.inl (Int32.toInt_inj.mp (h.trans (by decide))))))))
  · exact (Or.inr (Or.inr (Or.inr (Or.inr (Or.inr (Int32.toInt_inj.mp (h.trans (by decide))))))))
theorem own_k (x : Int32) : ((x &&& (2147483647 : Int32)) % (6 : Int32)) = (0 : Int32) ∨ ((x &&& (2147483647 : Int32)) % (6 : Int32)) = (1 : Int32) ∨ ((x &&& (2147483647 : Int32)) % (6 : Int32)) = (2 : Int32) ∨ ((x &&& (2147483647 : Int32)) % (6 : Int32)) = (3 : Int32) ∨ ((x &&& (2147483647 : Int32)) % (6 : Int32)) = (4 : Int32) ∨ ((x &&& (2147483647 : Int32)) % (6 : Int32)) = (5 : Int32) := by
  have e := Jvm.Kit.i32_mask x (2147483647 : Int32) (k := 31) (by decide) (by decide)
  have e2 := Jvm.Kit.i32_rem_nonneg (x := x &&& (2147483647 : Int32)) (y := (6 : Int32)) (by omega)
  have e3 : ((6 : Int32)).toInt = 6 := by decide
  rw [e3] at e2
  exact own_k_n _ (by omega) (by omega)
theorem own_j_n (k : Int32) (h0 : 0 ≤ k.toInt) (h1 : k.toInt < 7) : k = (0 : Int32) ∨ k = (1 : Int32) ∨ k = (2 : Int32) ∨ k = (3 : Int32) ∨ k = (4 : Int32) ∨ k = (5 : Int32) ∨ k = (6 : Int32) := by
  have h : k.toInt = 0 ∨ k.toInt = 1 ∨ k.toInt = 2 ∨ k.toInt = 3 ∨ k.toInt = 4 ∨ k.toInt = 5 ∨ k.toInt = 6 := by omega
  rcases h with h | h | h | h | h | h | h
  · exact (Or.inl (Int32.toInt_inj.mp (h.trans (by decide))))
  · exact (Or.inr (Or.inl (Int32.toInt_inj.mp (h.trans (by decide)))))
  · exact (Or.inr (Or.inr (Or.inl (Int32.toInt_inj.mp (h.trans (by decide))))))
  · exact (Or.inr (Or.inr (Or.inr (Or.inl (Int32.toInt_inj.mp (h.trans (by decide)))))))
  · exact (Or.inr (Or.inr (Or.inr (Or.inr (Or.inl (Int32.toInt_inj.mp (h.trans (by decide))))))))
  · exact (Or.inr (Or.inr (Or.inr (Or.inr (Or.inr (Or.inl (Int32.toInt_inj.mp (h.trans (by decide)))))))))
  · exact (Or.inr (Or.inr (Or.inr (Or.inr (Or.inr (Or.inr (Int32.toInt_inj.mp (h.trans (by decide)))))))))
theorem own_j (x : Int32) : ((x &&& (2147483647 : Int32)) % (7 : Int32)) = (0 : Int32) ∨ ((x &&& (2147483647 : Int32)) % (7 : Int32)) = (1 : Int32) ∨ ((x &&& (2147483647 : Int32)) % (7 : Int32)) = (2 : Int32) ∨ ((x &&& (2147483647 : Int32)) % (7 : Int32)) = (3 : Int32) ∨ ((x &&& (2147483647 : Int32)) % (7 : Int32)) = (4 : Int32) ∨ ((x &&& (2147483647 : Int32)) % (7 : Int32)) = (5 : Int32) ∨ ((x &&& (2147483647 : Int32)) % (7 : Int32)) = (6 : Int32) := by
  have e := Jvm.Kit.i32_mask x (2147483647 : Int32) (k := 31) (by decide) (by decide)
  have e2 := Jvm.Kit.i32_rem_nonneg (x := x &&& (2147483647 : Int32)) (y := (7 : Int32)) (by omega)
  have e3 : ((7 : Int32)).toInt = 7 := by decide
  rw [e3] at e2
  exact own_j_n _ (by omega) (by omega)
theorem d2_0 : decode prog_54_method_5_code 0 = .ok (.aload_n 0, 1) := by decide +kernel
theorem d2_1 : decode prog_54_method_5_code 1 = .ok (.getfield 41, 3) := by decide +kernel
theorem d2_4 : decode prog_54_method_5_code 4 = .ok (.ifnull 7, 3) := by decide +kernel
theorem d2_7 : decode prog_54_method_5_code 7 = .ok (.iconst 1, 1) := by decide +kernel
theorem d2_8 : decode prog_54_method_5_code 8 = .ok (.goto 4, 3) := by decide +kernel
theorem d2_12 : decode prog_54_method_5_code 12 = .ok (.ireturn, 1) := by decide +kernel
theorem pn_2 : plainName "com/example/indexwright/indexwright/sql/ColumnType" = true := by first | (simp [plainName, overriddenIn]; done) | decide +kernel
theorem ef_2 (m : MethodId) (x0 : Addr) : entryFrame m #[(.ref x0)] 1 = mkF m 0 #[.val (.ref x0)] [] := by first | (simp [entryFrame, mkF, argsToLocals, Value.category]; done) | rfl
def Q2_f (Z : State) (a1 : Addr) (w2 : Addr) (h0 : Heap) (n0 : Nat) (v : Option Value) (h : Heap) (L : List Loc) : Prop := v = some (.int (1 : Int32)) ∧ Fr n0 L ∧ h = h0
set_option maxRecDepth 65536 in
set_option maxHeartbeats 40000000 in
theorem rm2_f (l : Launch) (Z : State) (a0 : Array Value) (hw : ∀ d ∈ tables_1, d.before a0 Z = true) (ws : List Jvm.Cond) (a1 : Addr) (w2 : Addr) (h0 : Heap) (n0 : Nat) (Z0 : n0 ≤ h0.size) (F_element_a1 : Fld Z h0 a1 "com/example/indexwright/indexwright/sql/ColumnType" "element" "Lcom/example/indexwright/indexwright/sql/ColumnType;" (.ref w2)) :
    MetFree l (⟨"com/example/indexwright/indexwright/sql/ColumnType", "isArray", "()Z"⟩ : MethodName) (head1 (Jvm.Cond.code (⟨"com/example/indexwright/indexwright/sql/ColumnType", "isArray", "()Z"⟩ : MethodName) prog_54_method_5_code 1 (some .boolean) :: ws) ({ frames := 0, cells := 0, slots := 0, locals := 0 } : Room)) (fun a U => a = #[(.ref a1)] ∧ Z.Warmed39 U.vm ∧ U.heap = h0) (fun _ _ _ _ _ => True) (fun _ U o U' => ∃ v L, o = .returned v ∧ Q2_f Z a1 w2 h0 n0 v U'.heap L ∧ FrameEnd U o U' L ({ frames := 0, cells := 0, slots := 0, locals := 0 } : Room).cells ({ frames := 0, cells := 0, slots := 0, locals := 0 } : Room).slots) := by
  refine MetFree.of_bodySF (plainFor_of_name pn_2) hisR ?_
  intro p e s m args below meth c s₁ Bd hml0 hP hK
  obtain ⟨rfl, hZ, hh⟩ := hP
  have hx := Bd.exec
  have hby := Bd.bytes
  have hml : c.maxLocals = 1 := hml0
  have hown : s.vm.findClass "com/example/indexwright/indexwright/sql/ColumnType" = some m.cls := findClass_of_methodNamed Bd.named
  have hnm := (name_of_methodNamed Bd.named Bd.method).1
  have X0 : Stand p l e ({ frames := 0, cells := 0, slots := 0, locals := 0 } : Room) s m #[(.ref a1)] below meth c s₁ [] 0 0 := Stand.of_body Bd
  have e0 : s₁.heap = h0 := by rw [← hh, Bd.state]; rfl
  have N0 := Fr.nil n0
  have pre0 : ∀ t, Steps p.tables e below (s₁.setTop (mkF m 0 #[.val (.ref a1)] [])) t → Steps p.tables e below (s₁.setTop (entryFrame m #[(.ref a1)] 1)) t := fun t k => castTop (ef_2 m a1) k
  -- 3. LAWS
  obtain ⟨T3, X3, e3, st3⟩ := getF X0 hx hZ hown (host := "") (Or.inl (hw _ (List.mem_of_getElem? (i := 28) rfl))) Via.refl e0 F_element_a1 (g := (mkF m 1 #[.val (.ref a1)] [(.ref a1)])) rfl rfl (hb hby d2_1)
  obtain ⟨fs, hr, hrun, hended, hW, hsame⟩ := X3.leave (v := some (.int (1 : Int32))) (fun h => by rw [Bd.returns] at h; cases h)
  refine ⟨_, _, pre0 _ ?_, hrun, hended, _, _, rfl, ?_, ⟨_, rfl⟩, hW, hsame.mono (by decide) (by decide)⟩
  -- 4. STEPS
  · show Steps p.tables e below (s₁.setTop (mkF m 0 #[.val (.ref a1)] [])) _
    refine XS.aloadN X0.here hx rfl (hb hby d2_0) rfl rfl ?_
    show Steps p.tables e below (s₁.setTop (mkF m 1 #[.val (.ref a1)] [(.ref a1)])) _
    refine st3 _ ?_
    show Steps p.tables e below (T3.setTop (mkF m 4 #[.val (.ref a1)] [(.ref w2)])) _
    refine XS.ifnullNo X3.here hx rfl (hb hby d2_4) rfl ?_
    show Steps p.tables e below (T3.setTop (mkF m 7 #[.val (.ref a1)] [])) _
    refine XS.iconst X3.here hx rfl (hb hby d2_7) ?_
    show Steps p.tables e below (T3.setTop (mkF m 8 #[.val (.ref a1)] [(.int (1 : Int32))])) _
    refine XS.goto X3.here hx rfl (pc0 := 8) (pc' := 12) rfl (hb hby d2_8) (by decide) (by decide) ?_
    show Steps p.tables e below (T3.setTop (mkF m 12 #[.val (.ref a1)] [(.int (1 : Int32))])) _
    exact retN X3 hx (t := .boolean) Bd.returns (by simp) (hb hby d2_12) hr
  · show Q2_f Z a1 w2 h0 n0 _ T3.heap _
    rw [e3]
    exact ⟨rfl, N0, rfl⟩
theorem d2_11 : decode prog_54_method_5_code 11 = .ok (.iconst 0, 1) := by decide +kernel
def Q2_n4_t (Z : State) (a1 : Addr) (h0 : Heap) (n0 : Nat) (v : Option Value) (h : Heap) (L : List Loc) : Prop := v = some (.int (0 : Int32)) ∧ Fr n0 L ∧ h = h0
set_option maxRecDepth 65536 in
set_option maxHeartbeats 40000000 in
theorem rm2_n4_t (l : Launch) (Z : State) (a0 : Array Value) (hw : ∀ d ∈ tables_1, d.before a0 Z = true) (ws : List Jvm.Cond) (a1 : Addr) (h0 : Heap) (n0 : Nat) (Z0 : n0 ≤ h0.size) (F_element_a1 : Fld Z h0 a1 "com/example/indexwright/indexwright/sql/ColumnType" "element" "Lcom/example/indexwright/indexwright/sql/ColumnType;" .null) :
    MetFree l (⟨"com/example/indexwright/indexwright/sql/ColumnType", "isArray", "()Z"⟩ : MethodName) (head1 (Jvm.Cond.code (⟨"com/example/indexwright/indexwright/sql/ColumnType", "isArray", "()Z"⟩ : MethodName) prog_54_method_5_code 1 (some .boolean) :: ws) ({ frames := 0, cells := 0, slots := 0, locals := 0 } : Room)) (fun a U => a = #[(.ref a1)] ∧ Z.Warmed39 U.vm ∧ U.heap = h0) (fun _ _ _ _ _ => True) (fun _ U o U' => ∃ v L, o = .returned v ∧ Q2_n4_t Z a1 h0 n0 v U'.heap L ∧ FrameEnd U o U' L ({ frames := 0, cells := 0, slots := 0, locals := 0 } : Room).cells ({ frames := 0, cells := 0, slots := 0, locals := 0 } : Room).slots) := by
  refine MetFree.of_bodySF (plainFor_of_name pn_2) hisR ?_
  intro p e s m args below meth c s₁ Bd hml0 hP hK
  obtain ⟨rfl, hZ, hh⟩ := hP
  have hx := Bd.exec
  have hby := Bd.bytes
  have hml : c.maxLocals = 1 := hml0
  have hown : s.vm.findClass "com/example/indexwright/indexwright/sql/ColumnType" = some m.cls := findClass_of_methodNamed Bd.named
  have hnm := (name_of_methodNamed Bd.named Bd.method).1
  have X0 : Stand p l e ({ frames := 0, cells := 0, slots := 0, locals := 0 } : Room) s m #[(.ref a1)] below meth c s₁ [] 0 0 := Stand.of_body Bd
  have e0 : s₁.heap = h0 := by rw [← hh, Bd.state]; rfl
  have N0 := Fr.nil n0
  have pre0 : ∀ t, Steps p.tables e below (s₁.setTop (mkF m 0 #[.val (.ref a1)] [])) t → Steps p.tables e below (s₁.setTop (entryFrame m #[(.ref a1)] 1)) t := fun t k => castTop (ef_2 m a1) k
  -- 3. LAWS
  obtain ⟨T3, X3, e3, st3⟩ := getF X0 hx hZ hown (host := "") (Or.inl (hw _ (List.mem_of_getElem? (i := 28) rfl))) Via.refl e0 F_element_a1 (g := (mkF m 1 #[.val (.ref a1)] [(.ref a1)])) rfl rfl (hb hby d2_1)
  obtain ⟨fs, hr, hrun, hended, hW, hsame⟩ := X3.leave (v := some (.int (0 : Int32))) (fun h => by rw [Bd.returns] at h; cases h)
  refine ⟨_, _, pre0 _ ?_, hrun, hended, _, _, rfl, ?_, ⟨_, rfl⟩, hW, hsame.mono (by decide) (by decide)⟩
  -- 4. STEPS
  · show Steps p.tables e below (s₁.setTop (mkF m 0 #[.val (.ref a1)] [])) _
    refine XS.aloadN X0.here hx rfl (hb hby d2_0) rfl rfl ?_
    show Steps p.tables e below (s₁.setTop (mkF m 1 #[.val (.ref a1)] [(.ref a1)])) _
    refine st3 _ ?_
    show Steps p.tables e below (T3.setTop (mkF m 4 #[.val (.ref a1)] [.null])) _
    refine XS.ifnullYes X3.here hx rfl (pc0 := 4) (pc' := 11) rfl (hb hby d2_4) rfl (by decide) (by decide) ?_
    show Steps p.tables e below (T3.setTop (mkF m 11 #[.val (.ref a1)] [])) _
    refine XS.iconst X3.here hx rfl (hb hby d2_11) ?_
    show Steps p.tables e below (T3.setTop (mkF m 12 #[.val (.ref a1)] [(.int (0 : Int32))])) _
    exact retN X3 hx (t := .boolean) Bd.returns (by simp) (hb hby d2_12) hr
  · show Q2_n4_t Z a1 h0 n0 _ T3.heap _
    rw [e3]
    exact ⟨rfl, N0, rfl⟩
def P2 (Z : State) (h0 : Heap) (a1 : Addr) (r : Option Value) : Prop := (∃ (w2 : Addr), (Fld Z h0 a1 "com/example/indexwright/indexwright/sql/ColumnType" "element" "Lcom/example/indexwright/indexwright/sql/ColumnType;" (.ref w2)) ∧ r = some (.int (1 : Int32))) ∨ ((Fld Z h0 a1 "com/example/indexwright/indexwright/sql/ColumnType" "element" "Lcom/example/indexwright/indexwright/sql/ColumnType;" .null) ∧ r = some (.int (0 : Int32)))
set_option maxRecDepth 65536 in
set_option maxHeartbeats 40000000 in
theorem own_2 (l : Launch) (Z : State) (a0 : Array Value) (hw : ∀ d ∈ tables_1, d.before a0 Z = true) (ws : List Jvm.Cond) (a1 : Addr) (r : Option Value) (h0 : Heap) (n0 : Nat) (Z0 : n0 ≤ h0.size) (hp : P2 Z h0 a1 r) :
    MetFree l (⟨"com/example/indexwright/indexwright/sql/ColumnType", "isArray", "()Z"⟩ : MethodName) (head1 (Jvm.Cond.code (⟨"com/example/indexwright/indexwright/sql/ColumnType", "isArray", "()Z"⟩ : MethodName) prog_54_method_5_code 1 (some .boolean) :: ws) ({ frames := 0, cells := 0, slots := 0, locals := 0 } : Room)) (fun a U => a = #[(.ref a1)] ∧ Z.Warmed39 U.vm ∧ U.heap = h0) (fun _ _ _ _ _ => True) (fun _ U o U' => ∃ v L, o = .returned v ∧ OwnQ r h0 n0 v U'.heap L ∧ FrameEnd U o U' L ({ frames := 0, cells := 0, slots := 0, locals := 0 } : Room).cells ({ frames := 0, cells := 0, slots := 0, locals := 0 } : Room).slots) := by
  rcases hp with ⟨w2, k0, rfl⟩ | ⟨k0, rfl⟩
  · exact rm2_f l Z a0 hw ws a1 w2 h0 n0 Z0 k0
  · exact rm2_n4_t l Z a0 hw ws a1 h0 n0 Z0 k0
theorem P2_keep {Z : State} {h0 h : Heap} {a1 : Addr} {r : Option Value} (K : Keep h0 h []) (hp : P2 Z h0 a1 r) : P2 Z h a1 r := by
  rcases hp with ⟨w2, k0, rfl⟩ | ⟨k0, rfl⟩
  · exact (Or.inl ⟨w2, (k0.keep K nin0), rfl⟩)
  · exact (Or.inr ⟨(k0.keep K nin0), rfl⟩)
theorem d1_0 : decode prog_54_method_14_code 0 = .ok (.aload_n 1, 1) := by decide +kernel
theorem d1_1 : decode prog_54_method_14_code 1 = .ok (.aload_n 0, 1) := by decide +kernel
theorem d1_2 : decode prog_54_method_14_code 2 = .ok (.if_acmp .eq 17, 3) := by decide +kernel
theorem d1_19 : decode prog_54_method_14_code 19 = .ok (.iconst 1, 1) := by decide +kernel
theorem d1_20 : decode prog_54_method_14_code 20 = .ok (.ireturn, 1) := by decide +kernel
theorem pn_1 : plainName "com/example/indexwright/indexwright/sql/ColumnType" = true := by first | (simp [plainName, overriddenIn]; done) | decide +kernel
theorem ef_1 (m : MethodId) (x0 : Addr) (x1 : Addr) : entryFrame m #[(.ref x0), (.ref x1)] 2 = mkF m 0 #[.val (.ref x0), .val (.ref x1)] [] := by first | (simp [entryFrame, mkF, argsToLocals, Value.category]; done) | rfl
def Q1_1a_t (Z : State) (a1 : Addr) (a2 : Addr) (h0 : Heap) (n0 : Nat) (v : Option Value) (h : Heap) (L : List Loc) : Prop := v = some (.int (1 : Int32)) ∧ Fr n0 L ∧ h = h0
set_option maxRecDepth 65536 in
set_option maxHeartbeats 40000000 in
theorem rm1_1a_t (l : Launch) (Z : State) (a0 : Array Value) (hw : ∀ d ∈ tables_1, d.before a0 Z = true) (ws : List Jvm.Cond) (a1 : Addr) (a2 : Addr) (h0 : Heap) (n0 : Nat) (Z0 : n0 ≤ h0.size) (ha2 : a2 = a1) :
    MetFree l (⟨"com/example/indexwright/indexwright/sql/ColumnType", "holds", "(Lcom/example/indexwright/indexwright/sql/ColumnType;)Z"⟩ : MethodName) (head1 (Jvm.Cond.code (⟨"com/example/indexwright/indexwright/sql/ColumnType", "holds", "(Lcom/example/indexwright/indexwright/sql/ColumnType;)Z"⟩ : MethodName) prog_54_method_14_code 2 (some .boolean) :: ws) ({ frames := 1, cells := 0, slots := 0, locals := 12 } : Room)) (fun a U => a = #[(.ref a1), (.ref a2)] ∧ Z.Warmed39 U.vm ∧ U.heap = h0) (fun _ _ _ _ _ => True) (fun _ U o U' => ∃ v L, o = .returned v ∧ Q1_1a_t Z a1 a2 h0 n0 v U'.heap L ∧ FrameEnd U o U' L ({ frames := 1, cells := 0, slots := 0, locals := 12 } : Room).cells ({ frames := 1, cells := 0, slots := 0, locals := 12 } : Room).slots) := by
  refine MetFree.of_bodySF (plainFor_of_name pn_1) hisR ?_
  intro p e s m args below meth c s₁ Bd hml0 hP hK
  obtain ⟨rfl, hZ, hh⟩ := hP
  have hx := Bd.exec
  have hby := Bd.bytes
  have hml : c.maxLocals = 2 := hml0
  have hown : s.vm.findClass "com/example/indexwright/indexwright/sql/ColumnType" = some m.cls := findClass_of_methodNamed Bd.named
  have hnm := (name_of_methodNamed Bd.named Bd.method).1
  have X0 : Stand p l e ({ frames := 1, cells := 0, slots := 0, locals := 12 } : Room) s m #[(.ref a1), (.ref a2)] below meth c s₁ [] 0 0 := Stand.of_body Bd
  have e0 : s₁.heap = h0 := by rw [← hh, Bd.state]; rfl
  have N0 := Fr.nil n0
  have pre0 : ∀ t, Steps p.tables e below (s₁.setTop (mkF m 0 #[.val (.ref a1), .val (.ref a2)] [])) t → Steps p.tables e below (s₁.setTop (entryFrame m #[(.ref a1), (.ref a2)] 2)) t := fun t k => castTop (ef_1 m a1 a2) k
  -- 3. LAWS

  obtain ⟨fs, hr, hrun, hended, hW, hsame⟩ := X0.leave (v := some (.int (1 : Int32))) (fun h => by rw [Bd.returns] at h; cases h)
  refine ⟨_, _, pre0 _ ?_, hrun, hended, _, _, rfl, ?_, ⟨_, rfl⟩, hW, hsame.mono (by decide) (by decide)⟩
  -- 4. STEPS
  · show Steps p.tables e below (s₁.setTop (mkF m 0 #[.val (.ref a1), .val (.ref a2)] [])) _
    refine XS.aloadN X0.here hx rfl (hb hby d1_0) rfl rfl ?_
    show Steps p.tables e below (s₁.setTop (mkF m 1 #[.val (.ref a1), .val (.ref a2)] [(.ref a2)])) _
    refine XS.aloadN X0.here hx rfl (hb hby d1_1) rfl rfl ?_
    show Steps p.tables e below (s₁.setTop (mkF m 2 #[.val (.ref a1), .val (.ref a2)] [(.ref a1), (.ref a2)])) _
    refine Jvm.RoadKit.acmp (g := (mkF m 2 #[.val (.ref a1), .val (.ref a2)] [(.ref a1), (.ref a2)])) X0 hx rfl rfl rfl (pc0 := 2) (pc' := 19) (same := true) rfl (hb hby d1_2) rfl (decide_eq_true (congrArg Value.ref ha2)) (by decide) (by decide) ?_
    show Steps p.tables e below (s₁.setTop (mkF m 19 #[.val (.ref a1), .val (.ref a2)] [])) _
    refine XS.iconst X0.here hx rfl (hb hby d1_19) ?_
    show Steps p.tables e below (s₁.setTop (mkF m 20 #[.val (.ref a1), .val (.ref a2)] [(.int (1 : Int32))])) _
    exact retN X0 hx (t := .boolean) Bd.returns (by simp) (hb hby d1_20) hr
  · show Q1_1a_t Z a1 a2 h0 n0 _ s₁.heap _
    rw [e0]
    exact ⟨rfl, N0, rfl⟩
theorem d1_5 : decode prog_54_method_14_code 5 = .ok (.aload_n 0, 1) := by decide +kernel
theorem d1_6 : decode prog_54_method_14_code 6 = .ok (.getstatic 7, 3) := by decide +kernel
theorem d1_9 : decode prog_54_method_14_code 9 = .ok (.if_acmp .ne 12, 3) := by decide +kernel
theorem d1_12 : decode prog_54_method_14_code 12 = .ok (.aload_n 1, 1) := by decide +kernel
theorem d1_13 : decode prog_54_method_14_code 13 = .ok (.getstatic 3, 3) := by decide +kernel
theorem d1_16 : decode prog_54_method_14_code 16 = .ok (.if_acmp .ne 5, 3) := by decide +kernel
def Q1_1a_fff (Z : State) (a1 : Addr) (a2 : Addr) (w3 : Addr) (w5 : Addr) (h0 : Heap) (n0 : Nat) (v : Option Value) (h : Heap) (L : List Loc) : Prop := v = some (.int (1 : Int32)) ∧ Fr n0 L ∧ h = h0
set_option maxRecDepth 65536 in
set_option maxHeartbeats 40000000 in
theorem rm1_1a_fff (l : Launch) (Z : State) (a0 : Array Value) (hw : ∀ d ∈ tables_1, d.before a0 Z = true) (ws : List Jvm.Cond) (a1 : Addr) (a2 : Addr) (w3 : Addr) (w5 : Addr) (h0 : Heap) (n0 : Nat) (Z0 : n0 ≤ h0.size) (S_DOUBLE : Sta Z h0 "com/example/indexwright/indexwright/sql/ColumnType" "DOUBLE" "Lcom/example/indexwright/indexwright/sql/ColumnType;" (.ref w3)) (S_BIGINT : Sta Z h0 "com/example/indexwright/indexwright/sql/ColumnType" "BIGINT" "Lcom/example/indexwright/indexwright/sql/ColumnType;" (.ref w5)) (ha2 : ¬ (a2 = a1)) (ha9 : a1 = w3) (ha16 : a2 = w5) :
    MetFree l (⟨"com/example/indexwright/indexwright/sql/ColumnType", "holds", "(Lcom/example/indexwright/indexwright/sql/ColumnType;)Z"⟩ : MethodName) (head1 (Jvm.Cond.code (⟨"com/example/indexwright/indexwright/sql/ColumnType", "holds", "(Lcom/example/indexwright/indexwright/sql/ColumnType;)Z"⟩ : MethodName) prog_54_method_14_code 2 (some .boolean) :: ws) ({ frames := 1, cells := 0, slots := 0, locals := 12 } : Room)) (fun a U => a = #[(.ref a1), (.ref a2)] ∧ Z.Warmed39 U.vm ∧ U.heap = h0) (fun _ _ _ _ _ => True) (fun _ U o U' => ∃ v L, o = .returned v ∧ Q1_1a_fff Z a1 a2 w3 w5 h0 n0 v U'.heap L ∧ FrameEnd U o U' L ({ frames := 1, cells := 0, slots := 0, locals := 12 } : Room).cells ({ frames := 1, cells := 0, slots := 0, locals := 12 } : Room).slots) := by
  refine MetFree.of_bodySF (plainFor_of_name pn_1) hisR ?_
  intro p e s m args below meth c s₁ Bd hml0 hP hK
  obtain ⟨rfl, hZ, hh⟩ := hP
  have hx := Bd.exec
  have hby := Bd.bytes
  have hml : c.maxLocals = 2 := hml0
  have hown : s.vm.findClass "com/example/indexwright/indexwright/sql/ColumnType" = some m.cls := findClass_of_methodNamed Bd.named
  have hnm := (name_of_methodNamed Bd.named Bd.method).1
  have X0 : Stand p l e ({ frames := 1, cells := 0, slots := 0, locals := 12 } : Room) s m #[(.ref a1), (.ref a2)] below meth c s₁ [] 0 0 := Stand.of_body Bd
  have e0 : s₁.heap = h0 := by rw [← hh, Bd.state]; rfl
  have N0 := Fr.nil n0
  have pre0 : ∀ t, Steps p.tables e below (s₁.setTop (mkF m 0 #[.val (.ref a1), .val (.ref a2)] [])) t → Steps p.tables e below (s₁.setTop (entryFrame m #[(.ref a1), (.ref a2)] 2)) t := fun t k => castTop (ef_1 m a1 a2) k
  -- 3. LAWS
  obtain ⟨T4, X4, e4, st4⟩ := getS2 X0 hx hZ hown (host := "") (Or.inl (hw _ (List.mem_of_getElem? (i := 22) rfl))) Via.refl e0 S_DOUBLE (g := (mkF m 6 #[.val (.ref a1), .val (.ref a2)] [(.ref a1)])) rfl (hb hby d1_6)
  obtain ⟨T6, X6, e6, st6⟩ := getS2 X4 hx hZ hown (host := "") (Or.inl (hw _ (List.mem_of_getElem? (i := 30) rfl))) Via.refl e4 S_BIGINT (g := (mkF m 13 #[.val (.ref a1), .val (.ref a2)] [(.ref a2)])) rfl (hb hby d1_13)
  obtain ⟨fs, hr, hrun, hended, hW, hsame⟩ := X6.leave (v := some (.int (1 : Int32))) (fun h => by rw [Bd.returns] at h; cases h)
  refine ⟨_, _, pre0 _ ?_, hrun, hended, _, _, rfl, ?_, ⟨_, rfl⟩, hW, hsame.mono (by decide) (by decide)⟩
  -- 4. STEPS
  · show Steps p.tables e below (s₁.setTop (mkF m 0 #[.val (.ref a1), .val (.ref a2)] [])) _
    refine XS.aloadN X0.here hx rfl (hb hby d1_0) rfl rfl ?_
    show Steps p.tables e below (s₁.setTop (mkF m 1 #[.val (.ref a1), .val (.ref a2)] [(.ref a2)])) _
    refine XS.aloadN X0.here hx rfl (hb hby d1_1) rfl rfl ?_
    show Steps p.tables e below (s₁.setTop (mkF m 2 #[.val (.ref a1), .val (.ref a2)] [(.ref a1), (.ref a2)])) _
    refine Jvm.RoadKit.acmp (g := (mkF m 2 #[.val (.ref a1), .val (.ref a2)] [(.ref a1), (.ref a2)])) X0 hx rfl rfl rfl (pc0 := 2) (pc' := 5) (same := false) rfl (hb hby d1_2) rfl (decide_eq_false fun q => ha2 (Value.ref.inj q)) (by decide) (by decide) ?_
    show Steps p.tables e below (s₁.setTop (mkF m 5 #[.val (.ref a1), .val (.ref a2)] [])) _
    refine XS.aloadN X0.here hx rfl (hb hby d1_5) rfl rfl ?_
    show Steps p.tables e below (s₁.setTop (mkF m 6 #[.val (.ref a1), .val (.ref a2)] [(.ref a1)])) _
    refine st4 _ ?_
    show Steps p.tables e below (T4.setTop (mkF m 9 #[.val (.ref a1), .val (.ref a2)] [(.ref w3), (.ref a1)])) _
    refine Jvm.RoadKit.acmp (g := (mkF m 9 #[.val (.ref a1), .val (.ref a2)] [(.ref w3), (.ref a1)])) X4 hx rfl rfl rfl (pc0 := 9) (pc' := 12) (same := true) rfl (hb hby d1_9) rfl (decide_eq_true (congrArg Value.ref ha9)) (by decide) (by decide) ?_
    show Steps p.tables e below (T4.setTop (mkF m 12 #[.val (.ref a1), .val (.ref a2)] [])) _
    refine XS.aloadN X4.here hx rfl (hb hby d1_12) rfl rfl ?_
    show Steps p.tables e below (T4.setTop (mkF m 13 #[.val (.ref a1), .val (.ref a2)] [(.ref a2)])) _
    refine st6 _ ?_
    show Steps p.tables e below (T6.setTop (mkF m 16 #[.val (.ref a1), .val (.ref a2)] [(.ref w5), (.ref a2)])) _
    refine Jvm.RoadKit.acmp (g := (mkF m 16 #[.val (.ref a1), .val (.ref a2)] [(.ref w5), (.ref a2)])) X6 hx rfl rfl rfl (pc0 := 16) (pc' := 19) (same := true) rfl (hb hby d1_16) rfl (decide_eq_true (congrArg Value.ref ha16)) (by decide) (by decide) ?_
    show Steps p.tables e below (T6.setTop (mkF m 19 #[.val (.ref a1), .val (.ref a2)] [])) _
    refine XS.iconst X6.here hx rfl (hb hby d1_19) ?_
    show Steps p.tables e below (T6.setTop (mkF m 20 #[.val (.ref a1), .val (.ref a2)] [(.int (1 : Int32))])) _
    exact retN X6 hx (t := .boolean) Bd.returns (by simp) (hb hby d1_20) hr
  · show Q1_1a_fff Z a1 a2 w3 w5 h0 n0 _ T6.heap _
    rw [e6]
    exact ⟨rfl, N0, rfl⟩
theorem d1_21 : decode prog_54_method_14_code 21 = .ok (.aload_n 0, 1) := by decide +kernel
theorem d1_22 : decode prog_54_method_14_code 22 = .ok (.invokevirtual 62, 3) := by decide +kernel
theorem d1_25 : decode prog_54_method_14_code 25 = .ok (.ifCond .eq 32, 3) := by decide +kernel
theorem d1_57 : decode prog_54_method_14_code 57 = .ok (.iconst 0, 1) := by decide +kernel
theorem d1_58 : decode prog_54_method_14_code 58 = .ok (.ireturn, 1) := by decide +kernel
theorem pd_1_1 : parseMethodDescriptor "()Z" = some ⟨[], some .boolean⟩ := by decide +kernel
def Q1_1a_ftt (Z : State) (a1 : Addr) (a2 : Addr) (w3 : Addr) (r5 : Int32) (h0 : Heap) (n0 : Nat) (v : Option Value) (h : Heap) (L : List Loc) : Prop := v = some (.int (0 : Int32)) ∧ Fr n0 L ∧ h = h0
set_option maxRecDepth 65536 in
set_option maxHeartbeats 40000000 in
theorem rm1_1a_ftt (l : Launch) (Z : State) (a0 : Array Value) (hw : ∀ d ∈ tables_1, d.before a0 Z = true) (ws : List Jvm.Cond) (a1 : Addr) (a2 : Addr) (w3 : Addr) (r5 : Int32) (h0 : Heap) (n0 : Nat) (Z0 : n0 ≤ h0.size) (S_DOUBLE : Sta Z h0 "com/example/indexwright/indexwright/sql/ColumnType" "DOUBLE" "Lcom/example/indexwright/indexwright/sql/ColumnType;" (.ref w3)) (E_a1 : Exa Z h0 a1 "com/example/indexwright/indexwright/sql/ColumnType") (ha2 : ¬ (a2 = a1)) (ha9 : ¬ (a1 = w3)) (hP5 : P2 Z h0 a1 (some (.int r5))) (hx1 : r5 = (0 : Int32)) :
    MetFree l (⟨"com/example/indexwright/indexwright/sql/ColumnType", "holds", "(Lcom/example/indexwright/indexwright/sql/ColumnType;)Z"⟩ : MethodName) (head1 (Jvm.Cond.code (⟨"com/example/indexwright/indexwright/sql/ColumnType", "holds", "(Lcom/example/indexwright/indexwright/sql/ColumnType;)Z"⟩ : MethodName) prog_54_method_14_code 2 (some .boolean) :: ws) ({ frames := 1, cells := 0, slots := 0, locals := 12 } : Room)) (fun a U => a = #[(.ref a1), (.ref a2)] ∧ Z.Warmed39 U.vm ∧ U.heap = h0) (fun _ _ _ _ _ => True) (fun _ U o U' => ∃ v L, o = .returned v ∧ Q1_1a_ftt Z a1 a2 w3 r5 h0 n0 v U'.heap L ∧ FrameEnd U o U' L ({ frames := 1, cells := 0, slots := 0, locals := 12 } : Room).cells ({ frames := 1, cells := 0, slots := 0, locals := 12 } : Room).slots) := by
  refine MetFree.of_bodySF (plainFor_of_name pn_1) hisR ?_
  intro p e s m args below meth c s₁ Bd hml0 hP hK
  obtain ⟨rfl, hZ, hh⟩ := hP
  have hx := Bd.exec
  have hby := Bd.bytes
  have hml : c.maxLocals = 2 := hml0
  have hown : s.vm.findClass "com/example/indexwright/indexwright/sql/ColumnType" = some m.cls := findClass_of_methodNamed Bd.named
  have hnm := (name_of_methodNamed Bd.named Bd.method).1
  have X0 : Stand p l e ({ frames := 1, cells := 0, slots := 0, locals := 12 } : Room) s m #[(.ref a1), (.ref a2)] below meth c s₁ [] 0 0 := Stand.of_body Bd
  have e0 : s₁.heap = h0 := by rw [← hh, Bd.state]; rfl
  have N0 := Fr.nil n0
  have pre0 : ∀ t, Steps p.tables e below (s₁.setTop (mkF m 0 #[.val (.ref a1), .val (.ref a2)] [])) t → Steps p.tables e below (s₁.setTop (entryFrame m #[(.ref a1), (.ref a2)] 2)) t := fun t k => castTop (ef_1 m a1 a2) k
  -- 3. LAWS
  obtain ⟨T4, X4, e4, st4⟩ := getS2 X0 hx hZ hown (host := "") (Or.inl (hw _ (List.mem_of_getElem? (i := 22) rfl))) Via.refl e0 S_DOUBLE (g := (mkF m 6 #[.val (.ref a1), .val (.ref a2)] [(.ref a1)])) rfl (hb hby d1_6)
  -- pc 22: com/example/indexwright/indexwright/sql/ColumnType.isArray by the contract of the body that the receiver's class selects, rm2
  obtain ⟨cq5, kq5, q5a, q5b, q5c⟩ := isOf hZ e4 E_a1
  obtain ⟨_, _, ⟨T5, L5, k5, n5⟩, -, X5, ⟨Lc5, hQ5, l5, y5, z5⟩, st5⟩ := X4.virtualBack hx (y := (⟨"com/example/indexwright/indexwright/sql/ColumnType", "isArray", "()Z"⟩ : MethodName)) (z := (⟨"com/example/indexwright/indexwright/sql/ColumnType", "isArray", "()Z"⟩ : MethodName)) hown (mvT hZ (hw _ (List.mem_of_getElem? (i := 23) rfl))) (mvT hZ (hw _ (List.mem_of_getElem? (i := 24) rfl))) (notFace_of_selects (args := #[]) (mvT hZ (hw _ (List.mem_of_getElem? (i := 26) rfl)))) (mvT hZ (hw _ (List.mem_of_getElem? (i := 26) rfl))) (mvT hZ (hw _ (List.mem_of_getElem? (i := 25) rfl))) (by decide) (backOf (W := 0) (own_2 l Z a0 hw [] a1 (some (.int r5)) h0 n0 Z0 hP5) hZ (hw _ (List.mem_of_getElem? (i := 27) rfl)) (hw _ (List.mem_of_getElem? (i := 3) rfl)) (by decide) (by decide)) q5a q5c (g := (mkF m 22 #[.val (.ref a1), .val (.ref a2)] [(.ref a1)])) rfl (by rw [hml]; rfl) (Steps.refl _) (argsL := []) (rest := []) (lenOf pd_1_1 rfl) rfl (by show 2 * 0 + _ ≤ _; exact Nat.le_of_eq rfl) (hb hby d1_22) (fun _ _ => ⟨rfl, e4, (by decide : 0 + 0 ≤ _), (by decide : 0 + 0 ≤ _)⟩)
  dsimp only [Pt.U, Pt.locs, Pt.cells, Pt.slots] at X5 l5 y5 z5 st5 hQ5
  subst l5 y5 z5
  obtain ⟨rfl, N5q, e5⟩ := hQ5      -- what it returned, that it wrote nothing old, and the rest of your Q2
  have N5 := Fr.app N0 N5q
  obtain ⟨fs, hr, hrun, hended, hW, hsame⟩ := X5.leave (v := some (.int (0 : Int32))) (fun h => by rw [Bd.returns] at h; cases h)
  refine ⟨_, _, pre0 _ ?_, hrun, hended, _, _, rfl, ?_, ⟨_, rfl⟩, hW, hsame.mono (by decide) (by decide)⟩
  -- 4. STEPS
  · show Steps p.tables e below (s₁.setTop (mkF m 0 #[.val (.ref a1), .val (.ref a2)] [])) _
    refine XS.aloadN X0.here hx rfl (hb hby d1_0) rfl rfl ?_
    show Steps p.tables e below (s₁.setTop (mkF m 1 #[.val (.ref a1), .val (.ref a2)] [(.ref a2)])) _
    refine XS.aloadN X0.here hx rfl (hb hby d1_1) rfl rfl ?_
    show Steps p.tables e below (s₁.setTop (mkF m 2 #[.val (.ref a1), .val (.ref a2)] [(.ref a1), (.ref a2)])) _
    refine Jvm.RoadKit.acmp (g := (mkF m 2 #[.val (.ref a1), .val (.ref a2)] [(.ref a1), (.ref a2)])) X0 hx rfl rfl rfl (pc0 := 2) (pc' := 5) (same := false) rfl (hb hby d1_2) rfl (decide_eq_false fun q => ha2 (Value.ref.inj q)) (by decide) (by decide) ?_
    show Steps p.tables e below (s₁.setTop (mkF m 5 #[.val (.ref a1), .val (.ref a2)] [])) _
    refine XS.aloadN X0.here hx rfl (hb hby d1_5) rfl rfl ?_
    show Steps p.tables e below (s₁.setTop (mkF m 6 #[.val (.ref a1), .val (.ref a2)] [(.ref a1)])) _
    refine st4 _ ?_
    show Steps p.tables e below (T4.setTop (mkF m 9 #[.val (.ref a1), .val (.ref a2)] [(.ref w3), (.ref a1)])) _
    refine Jvm.RoadKit.acmp (g := (mkF m 9 #[.val (.ref a1), .val (.ref a2)] [(.ref w3), (.ref a1)])) X4 hx rfl rfl rfl (pc0 := 9) (pc' := 21) (same := false) rfl (hb hby d1_9) rfl (decide_eq_false fun q => ha9 (Value.ref.inj q)) (by decide) (by decide) ?_
    show Steps p.tables e below (T4.setTop (mkF m 21 #[.val (.ref a1), .val (.ref a2)] [])) _
    refine XS.aloadN X4.here hx rfl (hb hby d1_21) rfl rfl ?_
    show Steps p.tables e below (T4.setTop (mkF m 22 #[.val (.ref a1), .val (.ref a2)] [(.ref a1)])) _
    refine st5.trans ?_
    show Steps p.tables e below (T5.setTop (mkF m 25 #[.val (.ref a1), .val (.ref a2)] [(.int r5)])) _
    refine XS.ifYes X5.here hx rfl (pc0 := 25) (pc' := 57) rfl (hb hby d1_25) rfl ((if0 _ _).trans (teq hx1).1) (by decide) (by decide) ?_
    show Steps p.tables e below (T5.setTop (mkF m 57 #[.val (.ref a1), .val (.ref a2)] [])) _
    refine XS.iconst X5.here hx rfl (hb hby d1_57) ?_
    show Steps p.tables e below (T5.setTop (mkF m 58 #[.val (.ref a1), .val (.ref a2)] [(.int (0 : Int32))])) _
    exact retN X5 hx (t := .boolean) Bd.returns (by simp) (hb hby d1_58) hr
  · show Q1_1a_ftt Z a1 a2 w3 r5 h0 n0 _ T5.heap _
    exact ⟨rfl, N5, e5⟩
def Q1_1a_fftt (Z : State) (a1 : Addr) (a2 : Addr) (w3 : Addr) (w5 : Addr) (r7 : Int32) (h0 : Heap) (n0 : Nat) (v : Option Value) (h : Heap) (L : List Loc) : Prop := v = some (.int (0 : Int32)) ∧ Fr n0 L ∧ h = h0
set_option maxRecDepth 65536 in
set_option maxHeartbeats 40000000 in
theorem rm1_1a_fftt (l : Launch) (Z : State) (a0 : Array Value) (hw : ∀ d ∈ tables_1, d.before a0 Z = true) (ws : List Jvm.Cond) (a1 : Addr) (a2 : Addr) (w3 : Addr) (w5 : Addr) (r7 : Int32) (h0 : Heap) (n0 : Nat) (Z0 : n0 ≤ h0.size) (S_DOUBLE : Sta Z h0 "com/example/indexwright/indexwright/sql/ColumnType" "DOUBLE" "Lcom/example/indexwright/indexwright/sql/ColumnType;" (.ref w3)) (S_BIGINT : Sta Z h0 "com/example/indexwright/indexwright/sql/ColumnType" "BIGINT" "Lcom/example/indexwright/indexwright/sql/ColumnType;" (.ref w5)) (E_a1 : Exa Z h0 a1 "com/example/indexwright/indexwright/sql/ColumnType") (ha2 : ¬ (a2 = a1)) (ha9 : a1 = w3) (ha16 : ¬ (a2 = w5)) (hP7 : P2 Z h0 a1 (some (.int r7))) (hx1 : r7 = (0 : Int32)) :
    MetFree l (⟨"com/example/indexwright/indexwright/sql/ColumnType", "holds", "(Lcom/example/indexwright/indexwright/sql/ColumnType;)Z"⟩ : MethodName) (head1 (Jvm.Cond.code (⟨"com/example/indexwright/indexwright/sql/ColumnType", "holds", "(Lcom/example/indexwright/indexwright/sql/ColumnType;)Z"⟩ : MethodName) prog_54_method_14_code 2 (some .boolean) :: ws) ({ frames := 1, cells := 0, slots := 0, locals := 12 } : Room)) (fun a U => a = #[(.ref a1), (.ref a2)] ∧ Z.Warmed39 U.vm ∧ U.heap = h0) (fun _ _ _ _ _ => True) (fun _ U o U' => ∃ v L, o = .returned v ∧ Q1_1a_fftt Z a1 a2 w3 w5 r7 h0 n0 v U'.heap L ∧ FrameEnd U o U' L ({ frames := 1, cells := 0, slots := 0, locals := 12 } : Room).cells ({ frames := 1, cells := 0, slots := 0, locals := 12 } : Room).slots) := by
  refine MetFree.of_bodySF (plainFor_of_name pn_1) hisR ?_
  intro p e s m args below meth c s₁ Bd hml0 hP hK
  obtain ⟨rfl, hZ, hh⟩ := hP
  have hx := Bd.exec
  have hby := Bd.bytes
  have hml : c.maxLocals = 2 := hml0
  have hown : s.vm.findClass "com/example/indexwright/indexwright/sql/ColumnType" = some m.cls := findClass_of_methodNamed Bd.named
  have hnm := (name_of_methodNamed Bd.named Bd.method).1
  have X0 : Stand p l e ({ frames := 1, cells := 0, slots := 0, locals := 12 } : Room) s m #[(.ref a1), (.ref a2)] below meth c s₁ [] 0 0 := Stand.of_body Bd
  have e0 : s₁.heap = h0 := by rw [← hh, Bd.state]; rfl
  have N0 := Fr.nil n0
  have pre0 : ∀ t, Steps p.tables e below (s₁.setTop (mkF m 0 #[.val (.ref a1), .val (.ref a2)] [])) t → Steps p.tables e below (s₁.setTop (entryFrame m #[(.ref a1), (.ref a2)] 2)) t := fun t k => castTop (ef_1 m a1 a2) k
  -- 3. LAWS
  obtain ⟨T4, X4, e4, st4⟩ := getS2 X0 hx hZ hown (host := "") (Or.inl (hw _ (List.mem_of_getElem? (i := 22) rfl))) Via.refl e0 S_DOUBLE (g := (mkF m 6 #[.val (.ref a1), .val (.ref a2)] [(.ref a1)])) rfl (hb hby d1_6)
  obtain ⟨T6, X6, e6, st6⟩ := getS2 X4 hx hZ hown (host := "") (Or.inl (hw _ (List.mem_of_getElem? (i := 30) rfl))) Via.refl e4 S_BIGINT (g := (mkF m 13 #[.val (.ref a1), .val (.ref a2)] [(.ref a2)])) rfl (hb hby d1_13)
  -- pc 22: com/example/indexwright/indexwright/sql/ColumnType.isArray by the contract of the body that the receiver's class selects, rm2
  obtain ⟨cq7, kq7, q7a, q7b, q7c⟩ := isOf hZ e6 E_a1
  obtain ⟨_, _, ⟨T7, L7, k7, n7⟩, -, X7, ⟨Lc7, hQ7, l7, y7, z7⟩, st7⟩ := X6.virtualBack hx (y := (⟨"com/example/indexwright/indexwright/sql/ColumnType", "isArray", "()Z"⟩ : MethodName)) (z := (⟨"com/example/indexwright/indexwright/sql/ColumnType", "isArray", "()Z"⟩ : MethodName)) hown (mvT hZ (hw _ (List.mem_of_getElem? (i := 23) rfl))) (mvT hZ (hw _ (List.mem_of_getElem? (i := 24) rfl))) (notFace_of_selects (args := #[]) (mvT hZ (hw _ (List.mem_of_getElem? (i := 26) rfl)))) (mvT hZ (hw _ (List.mem_of_getElem? (i := 26) rfl))) (mvT hZ (hw _ (List.mem_of_getElem? (i := 25) rfl))) (by decide) (backOf (W := 0) (own_2 l Z a0 hw [] a1 (some (.int r7)) h0 n0 Z0 hP7) hZ (hw _ (List.mem_of_getElem? (i := 27) rfl)) (hw _ (List.mem_of_getElem? (i := 3) rfl)) (by decide) (by decide)) q7a q7c (g := (mkF m 22 #[.val (.ref a1), .val (.ref a2)] [(.ref a1)])) rfl (by rw [hml]; rfl) (Steps.refl _) (argsL := []) (rest := []) (lenOf pd_1_1 rfl) rfl (by show 2 * 0 + _ ≤ _; exact Nat.le_of_eq rfl) (hb hby d1_22) (fun _ _ => ⟨rfl, e6, (by decide : 0 + 0 ≤ _), (by decide : 0 + 0 ≤ _)⟩)
  dsimp only [Pt.U, Pt.locs, Pt.cells, Pt.slots] at X7 l7 y7 z7 st7 hQ7
  subst l7 y7 z7
  obtain ⟨rfl, N7q, e7⟩ := hQ7      -- what it returned, that it wrote nothing old, and the rest of your Q2
  have N7 := Fr.app N0 N7q
  obtain ⟨fs, hr, hrun, hended, hW, hsame⟩ := X7.leave (v := some (.int (0 : Int32))) (fun h => by rw [Bd.returns] at h; cases h)
  refine ⟨_, _, pre0 _ ?_, hrun, hended, _, _, rfl, ?_, ⟨_, rfl⟩, hW, hsame.mono (by decide) (by decide)⟩
  -- 4. STEPS
  · show Steps p.tables e below (s₁.setTop (mkF m 0 #[.val (.ref a1), .val (.ref a2)] [])) _
    refine XS.aloadN X0.here hx rfl (hb hby d1_0) rfl rfl ?_
    show Steps p.tables e below (s₁.setTop (mkF m 1 #[.val (.ref a1), .val (.ref a2)] [(.ref a2)])) _
    refine XS.aloadN X0.here hx rfl (hb hby d1_1) rfl rfl ?_
    show Steps p.tables e below (s₁.setTop (mkF m 2 #[.val (.ref a1), .val (.ref a2)] [(.ref a1), (.ref a2)])) _
    refine Jvm.RoadKit.acmp (g := (mkF m 2 #[.val (.ref a1), .val (.ref a2)] [(.ref a1), (.ref a2)])) X0 hx rfl rfl rfl (pc0 := 2) (pc' := 5) (same := false) rfl (hb hby d1_2) rfl (decide_eq_false fun q => ha2 (Value.ref.inj q)) (by decide) (by decide) ?_
    show Steps p.tables e below (s₁.setTop (mkF m 5 #[.val (.ref a1), .val (.ref a2)] [])) _
    refine XS.aloadN X0.here hx rfl (hb hby d1_5) rfl rfl ?_
    show Steps p.tables e below (s₁.setTop (mkF m 6 #[.val (.ref a1), .val (.ref a2)] [(.ref a1)])) _
    refine st4 _ ?_
    show Steps p.tables e below (T4.setTop (mkF m 9 #[.val (.ref a1), .val (.ref a2)] [(.ref w3), (.ref a1)])) _
    refine Jvm.RoadKit.acmp (g := (mkF m 9 #[.val (.ref a1), .val (.ref a2)] [(.ref w3), (.ref a1)])) X4 hx rfl rfl rfl (pc0 := 9) (pc' := 12) (same := true) rfl (hb hby d1_9) rfl (decide_eq_true (congrArg Value.ref ha9)) (by decide) (by decide) ?_
    show Steps p.tables e below (T4.setTop (mkF m 12 #[.val (.ref a1), .val (.ref a2)] [])) _
    refine XS.aloadN X4.here hx rfl (hb hby d1_12) rfl rfl ?_
    show Steps p.tables e below (T4.setTop (mkF m 13 #[.val (.ref a1), .val (.ref a2)] [(.ref a2)])) _
    refine st6 _ ?_
    show Steps p.tables e below (T6.setTop (mkF m 16 #[.val (.ref a1), .val (.ref a2)] [(.ref w5), (.ref a2)])) _
    refine Jvm.RoadKit.acmp (g := (mkF m 16 #[.val (.ref a1), .val (.ref a2)] [(.ref w5), (.ref a2)])) X6 hx rfl rfl rfl (pc0 := 16) (pc' := 21) (same := false) rfl (hb hby d1_16) rfl (decide_eq_false fun q => ha16 (Value.ref.inj q)) (by decide) (by decide) ?_
    show Steps p.tables e below (T6.setTop (mkF m 21 #[.val (.ref a1), .val (.ref a2)] [])) _
    refine XS.aloadN X6.here hx rfl (hb hby d1_21) rfl rfl ?_
    show Steps p.tables e below (T6.setTop (mkF m 22 #[.val (.ref a1), .val (.ref a2)] [(.ref a1)])) _
    refine st7.trans ?_
    show Steps p.tables e below (T7.setTop (mkF m 25 #[.val (.ref a1), .val (.ref a2)] [(.int r7)])) _
    refine XS.ifYes X7.here hx rfl (pc0 := 25) (pc' := 57) rfl (hb hby d1_25) rfl ((if0 _ _).trans (teq hx1).1) (by decide) (by decide) ?_
    show Steps p.tables e below (T7.setTop (mkF m 57 #[.val (.ref a1), .val (.ref a2)] [])) _
    refine XS.iconst X7.here hx rfl (hb hby d1_57) ?_
    show Steps p.tables e below (T7.setTop (mkF m 58 #[.val (.ref a1), .val (.ref a2)] [(.int (0 : Int32))])) _
    exact retN X7 hx (t := .boolean) Bd.returns (by simp) (hb hby d1_58) hr
  · show Q1_1a_fftt Z a1 a2 w3 w5 r7 h0 n0 _ T7.heap _
    exact ⟨rfl, N7, e7⟩
theorem d1_28 : decode prog_54_method_14_code 28 = .ok (.aload_n 1, 1) := by decide +kernel
theorem d1_29 : decode prog_54_method_14_code 29 = .ok (.ifnull 28, 3) := by decide +kernel
theorem d1_32 : decode prog_54_method_14_code 32 = .ok (.aload_n 1, 1) := by decide +kernel
theorem d1_33 : decode prog_54_method_14_code 33 = .ok (.invokevirtual 62, 3) := by decide +kernel
theorem d1_36 : decode prog_54_method_14_code 36 = .ok (.ifCond .eq 21, 3) := by decide +kernel
def Q1_1a_ftfft (Z : State) (a1 : Addr) (a2 : Addr) (w3 : Addr) (r5 : Int32) (r6 : Int32) (h0 : Heap) (n0 : Nat) (v : Option Value) (h : Heap) (L : List Loc) : Prop := v = some (.int (0 : Int32)) ∧ Fr n0 L ∧ h = h0
set_option maxRecDepth 65536 in
set_option maxHeartbeats 40000000 in
theorem rm1_1a_ftfft (l : Launch) (Z : State) (a0 : Array Value) (hw : ∀ d ∈ tables_1, d.before a0 Z = true) (ws : List Jvm.Cond) (a1 : Addr) (a2 : Addr) (w3 : Addr) (r5 : Int32) (r6 : Int32) (h0 : Heap) (n0 : Nat) (Z0 : n0 ≤ h0.size) (S_DOUBLE : Sta Z h0 "com/example/indexwright/indexwright/sql/ColumnType" "DOUBLE" "Lcom/example/indexwright/indexwright/sql/ColumnType;" (.ref w3)) (E_a1 : Exa Z h0 a1 "com/example/indexwright/indexwright/sql/ColumnType") (E_a2 : Exa Z h0 a2 "com/example/indexwright/indexwright/sql/ColumnType") (ha2 : ¬ (a2 = a1)) (ha9 : ¬ (a1 = w3)) (hP5 : P2 Z h0 a1 (some (.int r5))) (hP6 : P2 Z h0 a2 (some (.int r6))) (hx1 : ¬ (r5 = (0 : Int32))) (hx2 : r6 = (0 : Int32)) :
    MetFree l (⟨"com/example/indexwright/indexwright/sql/ColumnType", "holds", "(Lcom/example/indexwright/indexwright/sql/ColumnType;)Z"⟩ : MethodName) (head1 (Jvm.Cond.code (⟨"com/example/indexwright/indexwright/sql/ColumnType", "holds", "(Lcom/example/indexwright/indexwright/sql/ColumnType;)Z"⟩ : MethodName) prog_54_method_14_code 2 (some .boolean) :: ws) ({ frames := 1, cells := 0, slots := 0, locals := 12 } : Room)) (fun a U => a = #[(.ref a1), (.ref a2)] ∧ Z.Warmed39 U.vm ∧ U.heap = h0) (fun _ _ _ _ _ => True) (fun _ U o U' => ∃ v L, o = .returned v ∧ Q1_1a_ftfft Z a1 a2 w3 r5 r6 h0 n0 v U'.heap L ∧ FrameEnd U o U' L ({ frames := 1, cells := 0, slots := 0, locals := 12 } : Room).cells ({ frames := 1, cells := 0, slots := 0, locals := 12 } : Room).slots) := by
  refine MetFree.of_bodySF (plainFor_of_name pn_1) hisR ?_
  intro p e s m args below meth c s₁ Bd hml0 hP hK
  obtain ⟨rfl, hZ, hh⟩ := hP
  have hx := Bd.exec
  have hby := Bd.bytes
  have hml : c.maxLocals = 2 := hml0
  have hown : s.vm.findClass "com/example/indexwright/indexwright/sql/ColumnType" = some m.cls := findClass_of_methodNamed Bd.named
  have hnm := (name_of_methodNamed Bd.named Bd.method).1
  have X0 : Stand p l e ({ frames := 1, cells := 0, slots := 0, locals := 12 } : Room) s m #[(.ref a1), (.ref a2)] below meth c s₁ [] 0 0 := Stand.of_body Bd
  have e0 : s₁.heap = h0 := by rw [← hh, Bd.state]; rfl
  have N0 := Fr.nil n0
  have pre0 : ∀ t, Steps p.tables e below (s₁.setTop (mkF m 0 #[.val (.ref a1), .val (.ref a2)] [])) t → Steps p.tables e below (s₁.setTop (entryFrame m #[(.ref a1), (.ref a2)] 2)) t := fun t k => castTop (ef_1 m a1 a2) k
  -- 3. LAWS
  obtain ⟨T4, X4, e4, st4⟩ := getS2 X0 hx hZ hown (host := "") (Or.inl (hw _ (List.mem_of_getElem? (i := 22) rfl))) Via.refl e0 S_DOUBLE (g := (mkF m 6 #[.val (.ref a1), .val (.ref a2)] [(.ref a1)])) rfl (hb hby d1_6)
  -- pc 22: com/example/indexwright/indexwright/sql/ColumnType.isArray by the contract of the body that the receiver's class selects, rm2
  obtain ⟨cq5, kq5, q5a, q5b, q5c⟩ := isOf hZ e4 E_a1
  obtain ⟨_, _, ⟨T5, L5, k5, n5⟩, -, X5, ⟨Lc5, hQ5, l5, y5, z5⟩, st5⟩ := X4.virtualBack hx (y := (⟨"com/example/indexwright/indexwright/sql/ColumnType", "isArray", "()Z"⟩ : MethodName)) (z := (⟨"com/example/indexwright/indexwright/sql/ColumnType", "isArray", "()Z"⟩ : MethodName)) hown (mvT hZ (hw _ (List.mem_of_getElem? (i := 23) rfl))) (mvT hZ (hw _ (List.mem_of_getElem? (i := 24) rfl))) (notFace_of_selects (args := #[]) (mvT hZ (hw _ (List.mem_of_getElem? (i := 26) rfl)))) (mvT hZ (hw _ (List.mem_of_getElem? (i := 26) rfl))) (mvT hZ (hw _ (List.mem_of_getElem? (i := 25) rfl))) (by decide) (backOf (W := 0) (own_2 l Z a0 hw [] a1 (some (.int r5)) h0 n0 Z0 hP5) hZ (hw _ (List.mem_of_getElem? (i := 27) rfl)) (hw _ (List.mem_of_getElem? (i := 3) rfl)) (by decide) (by decide)) q5a q5c (g := (mkF m 22 #[.val (.ref a1), .val (.ref a2)] [(.ref a1)])) rfl (by rw [hml]; rfl) (Steps.refl _) (argsL := []) (rest := []) (lenOf pd_1_1 rfl) rfl (by show 2 * 0 + _ ≤ _; exact Nat.le_of_eq rfl) (hb hby d1_22) (fun _ _ => ⟨rfl, e4, (by decide : 0 + 0 ≤ _), (by decide : 0 + 0 ≤ _)⟩)
  dsimp only [Pt.U, Pt.locs, Pt.cells, Pt.slots] at X5 l5 y5 z5 st5 hQ5
  subst l5 y5 z5
  obtain ⟨rfl, N5q, e5⟩ := hQ5      -- what it returned, that it wrote nothing old, and the rest of your Q2
  have N5 := Fr.app N0 N5q
  -- pc 33: com/example/indexwright/indexwright/sql/ColumnType.isArray by the contract of the body that the receiver's class selects, rm2
  obtain ⟨cq6, kq6, q6a, q6b, q6c⟩ := isOf hZ e5 E_a2
  obtain ⟨_, _, ⟨T6, L6, k6, n6⟩, -, X6, ⟨Lc6, hQ6, l6, y6, z6⟩, st6⟩ := X5.virtualBack hx (y := (⟨"com/example/indexwright/indexwright/sql/ColumnType", "isArray", "()Z"⟩ : MethodName)) (z := (⟨"com/example/indexwright/indexwright/sql/ColumnType", "isArray", "()Z"⟩ : MethodName)) hown (mvT hZ (hw _ (List.mem_of_getElem? (i := 23) rfl))) (mvT hZ (hw _ (List.mem_of_getElem? (i := 24) rfl))) (notFace_of_selects (args := #[]) (mvT hZ (hw _ (List.mem_of_getElem? (i := 26) rfl)))) (mvT hZ (hw _ (List.mem_of_getElem? (i := 26) rfl))) (mvT hZ (hw _ (List.mem_of_getElem? (i := 25) rfl))) (by decide) (backOf (W := 0) (own_2 l Z a0 hw [] a2 (some (.int r6)) h0 n0 Z0 hP6) hZ (hw _ (List.mem_of_getElem? (i := 27) rfl)) (hw _ (List.mem_of_getElem? (i := 3) rfl)) (by decide) (by decide)) q6a q6c (g := (mkF m 33 #[.val (.ref a1), .val (.ref a2)] [(.ref a2)])) rfl (by rw [hml]; rfl) (Steps.refl _) (argsL := []) (rest := []) (lenOf pd_1_1 rfl) rfl (by show 2 * 0 + _ ≤ _; exact Nat.le_of_eq rfl) (hb hby d1_33) (fun _ _ => ⟨rfl, e5, (by decide : 0 + 0 ≤ _), (by decide : 0 + 0 ≤ _)⟩)
  dsimp only [Pt.U, Pt.locs, Pt.cells, Pt.slots] at X6 l6 y6 z6 st6 hQ6
  subst l6 y6 z6
  obtain ⟨rfl, N6q, e6⟩ := hQ6      -- what it returned, that it wrote nothing old, and the rest of your Q2
  have N6 := Fr.app N5 N6q
  obtain ⟨fs, hr, hrun, hended, hW, hsame⟩ := X6.leave (v := some (.int (0 : Int32))) (fun h => by rw [Bd.returns] at h; cases h)
  refine ⟨_, _, pre0 _ ?_, hrun, hended, _, _, rfl, ?_, ⟨_, rfl⟩, hW, hsame.mono (by decide) (by decide)⟩
  -- 4. STEPS
  · show Steps p.tables e below (s₁.setTop (mkF m 0 #[.val (.ref a1), .val (.ref a2)] [])) _
    refine XS.aloadN X0.here hx rfl (hb hby d1_0) rfl rfl ?_
    show Steps p.tables e below (s₁.setTop (mkF m 1 #[.val (.ref a1), .val (.ref a2)] [(.ref a2)])) _
    refine XS.aloadN X0.here hx rfl (hb hby d1_1) rfl rfl ?_
    show Steps p.tables e below (s₁.setTop (mkF m 2 #[.val (.ref a1), .val (.ref a2)] [(.ref a1), (.ref a2)])) _
    refine Jvm.RoadKit.acmp (g := (mkF m 2 #[.val (.ref a1), .val (.ref a2)] [(.ref a1), (.ref a2)])) X0 hx rfl rfl rfl (pc0 := 2) (pc' := 5) (same := false) rfl (hb hby d1_2) rfl (decide_eq_false fun q => ha2 (Value.ref.inj q)) (by decide) (by decide) ?_
    show Steps p.tables e below (s₁.setTop (mkF m 5 #[.val (.ref a1), .val (.ref a2)] [])) _
    refine XS.aloadN X0.here hx rfl (hb hby d1_5) rfl rfl ?_
    show Steps p.tables e below (s₁.setTop (mkF m 6 #[.val (.ref a1), .val (.ref a2)] [(.ref a1)])) _
    refine st4 _ ?_
    show Steps p.tables e below (T4.setTop (mkF m 9 #[.val (.ref a1), .val (.ref a2)] [(.ref w3), (.ref a1)])) _
    refine Jvm.RoadKit.acmp (g := (mkF m 9 #[.val (.ref a1), .val (.ref a2)] [(.ref w3), (.ref a1)])) X4 hx rfl rfl rfl (pc0 := 9) (pc' := 21) (same := false) rfl (hb hby d1_9) rfl (decide_eq_false fun q => ha9 (Value.ref.inj q)) (by decide) (by decide) ?_
    show Steps p.tables e below (T4.setTop (mkF m 21 #[.val (.ref a1), .val (.ref a2)] [])) _
    refine XS.aloadN X4.here hx rfl (hb hby d1_21) rfl rfl ?_
    show Steps p.tables e below (T4.setTop (mkF m 22 #[.val (.ref a1), .val (.ref a2)] [(.ref a1)])) _
    refine st5.trans ?_
    show Steps p.tables e below (T5.setTop (mkF m 25 #[.val (.ref a1), .val (.ref a2)] [(.int r5)])) _
    refine XS.ifNo X5.here hx rfl (hb hby d1_25) rfl ((if0 _ _).trans (feq hx1).1) ?_
    show Steps p.tables e below (T5.setTop (mkF m 28 #[.val (.ref a1), .val (.ref a2)] [])) _
    refine XS.aloadN X5.here hx rfl (hb hby d1_28) rfl rfl ?_
    show Steps p.tables e below (T5.setTop (mkF m 29 #[.val (.ref a1), .val (.ref a2)] [(.ref a2)])) _
    refine XS.ifnullNo X5.here hx rfl (hb hby d1_29) rfl ?_
    show Steps p.tables e below (T5.setTop (mkF m 32 #[.val (.ref a1), .val (.ref a2)] [])) _
    refine XS.aloadN X5.here hx rfl (hb hby d1_32) rfl rfl ?_
    show Steps p.tables e below (T5.setTop (mkF m 33 #[.val (.ref a1), .val (.ref a2)] [(.ref a2)])) _
    refine st6.trans ?_
    show Steps p.tables e below (T6.setTop (mkF m 36 #[.val (.ref a1), .val (.ref a2)] [(.int r6)])) _
    refine XS.ifYes X6.here hx rfl (pc0 := 36) (pc' := 57) rfl (hb hby d1_36) rfl ((if0 _ _).trans (teq hx2).1) (by decide) (by decide) ?_
    show Steps p.tables e below (T6.setTop (mkF m 57 #[.val (.ref a1), .val (.ref a2)] [])) _
    refine XS.iconst X6.here hx rfl (hb hby d1_57) ?_
    show Steps p.tables e below (T6.setTop (mkF m 58 #[.val (.ref a1), .val (.ref a2)] [(.int (0 : Int32))])) _
    exact retN X6 hx (t := .boolean) Bd.returns (by simp) (hb hby d1_58) hr
  · show Q1_1a_ftfft Z a1 a2 w3 r5 r6 h0 n0 _ T6.heap _
    exact ⟨rfl, N6, e6⟩
def Q1_1a_fftfft (Z : State) (a1 : Addr) (a2 : Addr) (w3 : Addr) (w5 : Addr) (r7 : Int32) (r8 : Int32) (h0 : Heap) (n0 : Nat) (v : Option Value) (h : Heap) (L : List Loc) : Prop := v = some (.int (0 : Int32)) ∧ Fr n0 L ∧ h = h0
set_option maxRecDepth 65536 in
set_option maxHeartbeats 40000000 in
theorem rm1_1a_fftfft (l : Launch) (Z : State) (a0 : Array Value) (hw : ∀ d ∈ tables_1, d.before a0 Z = true) (ws : List Jvm.Cond) (a1 : Addr) (a2 : Addr) (w3 : Addr) (w5 : Addr) (r7 : Int32) (r8 : Int32) (h0 : Heap) (n0 : Nat) (Z0 : n0 ≤ h0.size) (S_DOUBLE : Sta Z h0 "com/example/indexwright/indexwright/sql/ColumnType" "DOUBLE" "Lcom/example/indexwright/indexwright/sql/ColumnType;" (.ref w3)) (S_BIGINT : Sta Z h0 "com/example/indexwright/indexwright/sql/ColumnType" "BIGINT" "Lcom/example/indexwright/indexwright/sql/ColumnType;" (.ref w5)) (E_a1 : Exa Z h0 a1 "com/example/indexwright/indexwright/sql/ColumnType") (E_a2 : Exa Z h0 a2 "com/example/indexwright/indexwright/sql/ColumnType") (ha2 : ¬ (a2 = a1)) (ha9 : a1 = w3) (ha16 : ¬ (a2 = w5)) (hP7 : P2 Z h0 a1 (some (.int r7))) (hP8 : P2 Z h0 a2 (some (.int r8))) (hx1 : ¬ (r7 = (0 : Int32))) (hx2 : r8 = (0 : Int32)) :
    MetFree l (⟨"com/example/indexwright/indexwright/sql/ColumnType", "holds", "(Lcom/example/indexwright/indexwright/sql/ColumnType;)Z"⟩ : MethodName) (head1 (Jvm.Cond.code (⟨"com/example/indexwright/indexwright/sql/ColumnType", "holds", "(Lcom/example/indexwright/indexwright/sql/ColumnType;)Z"⟩ : MethodName) prog_54_method_14_code 2 (some .boolean) :: ws) ({ frames := 1, cells := 0, slots := 0, locals := 12 } : Room)) (fun a U => a = #[(.ref a1), (.ref a2)] ∧ Z.Warmed39 U.vm ∧ U.heap = h0) (fun _ _ _ _ _ => True) (fun _ U o U' => ∃ v L, o = .returned v ∧ Q1_1a_fftfft Z a1 a2 w3 w5 r7 r8 h0 n0 v U'.heap L ∧ FrameEnd U o U' L ({ frames := 1, cells := 0, slots := 0, locals := 12 } : Room).cells ({ frames := 1, cells := 0, slots := 0, locals := 12 } : Room).slots) := by
  refine MetFree.of_bodySF (plainFor_of_name pn_1) hisR ?_
  intro p e s m args below meth c s₁ Bd hml0 hP hK
  obtain ⟨rfl, hZ, hh⟩ := hP
  have hx := Bd.exec
  have hby := Bd.bytes
  have hml : c.maxLocals = 2 := hml0
  have hown : s.vm.findClass "com/example/indexwright/indexwright/sql/ColumnType" = some m.cls := findClass_of_methodNamed Bd.named
  have hnm := (name_of_methodNamed Bd.named Bd.method).1
  have X0 : Stand p l e ({ frames := 1, cells := 0, slots := 0, locals := 12 } : Room) s m #[(.ref a1), (.ref a2)] below meth c s₁ [] 0 0 := Stand.of_body Bd
  have e0 : s₁.heap = h0 := by rw [← hh, Bd.state]; rfl
  have N0 := Fr.nil n0
  have pre0 : ∀ t, Steps p.tables e below (s₁.setTop (mkF m 0 #[.val (.ref a1), .val (.ref a2)] [])) t → Steps p.tables e below (s₁.setTop (entryFrame m #[(.ref a1), (.ref a2)] 2)) t := fun t k => castTop (ef_1 m a1 a2) k
  -- 3. LAWS
  obtain ⟨T4, X4, e4, st4⟩ := getS2 X0 hx hZ hown (host := "") (Or.inl (hw _ (List.mem_of_getElem? (i := 22) rfl))) Via.refl e0 S_DOUBLE (g := (mkF m 6 #[.val (.ref a1), .val (.ref a2)] [(.ref a1)])) rfl (hb hby d1_6)
  obtain ⟨T6, X6, e6, st6⟩ := getS2 X4 hx hZ hown (host := "") (Or.inl (hw _ (List.mem_of_getElem? (i := 30) rfl))) Via.refl e4 S_BIGINT (g := (mkF m 13 #[.val (.ref a1), .val (.ref a2)] [(.ref a2)])) rfl (hb hby d1_13)
  -- pc 22: com/example/indexwright/indexwright/sql/ColumnType.isArray by the contract of the body that the receiver's class selects, rm2
  obtain ⟨cq7, kq7, q7a, q7b, q7c⟩ := isOf hZ e6 E_a1
  obtain ⟨_, _, ⟨T7, L7, k7, n7⟩, -, X7, ⟨Lc7, hQ7, l7, y7, z7⟩, st7⟩ := X6.virtualBack hx (y := (⟨"com/example/indexwright/indexwright/sql/ColumnType", "isArray", "()Z"⟩ : MethodName)) (z := (⟨"com/example/indexwright/indexwright/sql/ColumnType", "isArray", "()Z"⟩ : MethodName)) hown (mvT hZ (hw _ (List.mem_of_getElem? (i := 23) rfl))) (mvT hZ (hw _ (List.mem_of_getElem? (i := 24) rfl))) (notFace_of_selects (args := #[]) (mvT hZ (hw _ (List.mem_of_getElem? (i := 26) rfl)))) (mvT hZ (hw _ (List.mem_of_getElem? (i := 26) rfl))) (mvT hZ (hw _ (List.mem_of_getElem? (i := 25) rfl))) (by decide) (backOf (W := 0) (own_2 l Z a0 hw [] a1 (some (.int r7)) h0 n0 Z0 hP7) hZ (hw _ (List.mem_of_getElem? (i := 27) rfl)) (hw _ (List.mem_of_getElem? (i := 3) rfl)) (by decide) (by decide)) q7a q7c (g := (mkF m 22 #[.val (.ref a1), .val (.ref a2)] [(.ref a1)])) rfl (by rw [hml]; rfl) (Steps.refl _) (argsL := []) (rest := []) (lenOf pd_1_1 rfl) rfl (by show 2 * 0 + _ ≤ _; exact Nat.le_of_eq rfl) (hb hby d1_22) (fun _ _ => ⟨rfl, e6, (by decide : 0 + 0 ≤ _), (by decide : 0 + 0 ≤ _)⟩)
  dsimp only [Pt.U, Pt.locs, Pt.cells, Pt.slots] at X7 l7 y7 z7 st7 hQ7
  subst l7 y7 z7
  obtain ⟨rfl, N7q, e7⟩ := hQ7      -- what it returned, that it wrote nothing old, and the rest of your Q2
  have N7 := Fr.app N0 N7q
  -- pc 33: com/example/indexwright/indexwright/sql/ColumnType.isArray by the contract of the body that the receiver's class selects, rm2
  obtain ⟨cq8, kq8, q8a, q8b, q8c⟩ := isOf hZ e7 E_a2
  obtain ⟨_, _, ⟨T8, L8, k8, n8⟩, -, X8, ⟨Lc8, hQ8, l8, y8, z8⟩, st8⟩ := X7.virtualBack hx (y := (⟨"com/example/indexwright/indexwright/sql/ColumnType", "isArray", "()Z"⟩ : MethodName)) (z := (⟨"com/example/indexwright/indexwright/sql/ColumnType", "isArray", "()Z"⟩ : MethodName)) hown (mvT hZ (hw _ (List.mem_of_getElem? (i := 23) rfl))) (mvT hZ (hw _ (List.mem_of_getElem? (i := 24) rfl))) (notFace_of_selects (args := #[]) (mvT hZ (hw _ (List.mem_of_getElem? (i := 26) rfl)))) (mvT hZ (hw _ (List.mem_of_getElem? (i := 26) rfl))) (mvT hZ (hw _ (List.mem_of_getElem? (i := 25) rfl))) (by decide) (backOf (W := 0) (own_2 l Z a0 hw [] a2 (some (.int r8)) h0 n0 Z0 hP8) hZ (hw _ (List.mem_of_getElem? (i := 27) rfl)) (hw _ (List.mem_of_getElem? (i := 3) rfl)) (by decide) (by decide)) q8a q8c (g := (mkF m 33 #[.val (.ref a1), .val (.ref a2)] [(.ref a2)])) rfl (by rw [hml]; rfl) (Steps.refl _) (argsL := []) (rest := []) (lenOf pd_1_1 rfl) rfl (by show 2 * 0 + _ ≤ _; exact Nat.le_of_eq rfl) (hb hby d1_33) (fun _ _ => ⟨rfl, e7, (by decide : 0 + 0 ≤ _), (by decide : 0 + 0 ≤ _)⟩)
  dsimp only [Pt.U, Pt.locs, Pt.cells, Pt.slots] at X8 l8 y8 z8 st8 hQ8
  subst l8 y8 z8
  obtain ⟨rfl, N8q, e8⟩ := hQ8      -- what it returned, that it wrote nothing old, and the rest of your Q2
  have N8 := Fr.app N7 N8q
  obtain ⟨fs, hr, hrun, hended, hW, hsame⟩ := X8.leave (v := some (.int (0 : Int32))) (fun h => by rw [Bd.returns] at h; cases h)
  refine ⟨_, _, pre0 _ ?_, hrun, hended, _, _, rfl, ?_, ⟨_, rfl⟩, hW, hsame.mono (by decide) (by decide)⟩
  -- 4. STEPS
  · show Steps p.tables e below (s₁.setTop (mkF m 0 #[.val (.ref a1), .val (.ref a2)] [])) _
    refine XS.aloadN X0.here hx rfl (hb hby d1_0) rfl rfl ?_
    show Steps p.tables e below (s₁.setTop (mkF m 1 #[.val (.ref a1), .val (.ref a2)] [(.ref a2)])) _
    refine XS.aloadN X0.here hx rfl (hb hby d1_1) rfl rfl ?_
    show Steps p.tables e below (s₁.setTop (mkF m 2 #[.val (.ref a1), .val (.ref a2)] [(.ref a1), (.ref a2)])) _
    refine Jvm.RoadKit.acmp (g := (mkF m 2 #[.val (.ref a1), .val (.ref a2)] [(.ref a1), (.ref a2)])) X0 hx rfl rfl rfl (pc0 := 2) (pc' := 5) (same := false) rfl (hb hby d1_2) rfl (decide_eq_false fun q => ha2 (Value.ref.inj q)) (by decide) (by decide) ?_
    show Steps p.tables e below (s₁.setTop (mkF m 5 #[.val (.ref a1), .val (.ref a2)] [])) _
    refine XS.aloadN X0.here hx rfl (hb hby d1_5) rfl rfl ?_
    show Steps p.tables e below (s₁.setTop (mkF m 6 #[.val (.ref a1), .val (.ref a2)] [(.ref a1)])) _
    refine st4 _ ?_
    show Steps p.tables e below (T4.setTop (mkF m 9 #[.val (.ref a1), .val (.ref a2)] [(.ref w3), (.ref a1)])) _
    refine Jvm.RoadKit.acmp (g := (mkF m 9 #[.val (.ref a1), .val (.ref a2)] [(.ref w3), (.ref a1)])) X4 hx rfl rfl rfl (pc0 := 9) (pc' := 12) (same := true) rfl (hb hby d1_9) rfl (decide_eq_true (congrArg Value.ref ha9)) (by decide) (by decide) ?_
    show Steps p.tables e below (T4.setTop (mkF m 12 #[.val (.ref a1), .val (.ref a2)] [])) _
    refine XS.aloadN X4.here hx rfl (hb hby d1_12) rfl rfl ?_
    show Steps p.tables e below (T4.setTop (mkF m 13 #[.val (.ref a1), .val (.ref a2)] [(.ref a2)])) _
    refine st6 _ ?_
    show Steps p.tables e below (T6.setTop (mkF m 16 #[.val (.ref a1), .val (.ref a2)] [(.ref w5), (.ref a2)])) _
    refine Jvm.RoadKit.acmp (g := (mkF m 16 #[.val (.ref a1), .val (.ref a2)] [(.ref w5), (.ref a2)])) X6 hx rfl rfl rfl (pc0 := 16) (pc' := 21) (same := false) rfl (hb hby d1_16) rfl (decide_eq_false fun q => ha16 (Value.ref.inj q)) (by decide) (by decide) ?_
    show Steps p.tables e below (T6.setTop (mkF m 21 #[.val (.ref a1), .val (.ref a2)] [])) _
    refine XS.aloadN X6.here hx rfl (hb hby d1_21) rfl rfl ?_
    show Steps p.tables e below (T6.setTop (mkF m 22 #[.val (.ref a1), .val (.ref a2)] [(.ref a1)])) _
    refine st7.trans ?_
    show Steps p.tables e below (T7.setTop (mkF m 25 #[.val (.ref a1), .val (.ref a2)] [(.int r7)])) _
    refine XS.ifNo X7.here hx rfl (hb hby d1_25) rfl ((if0 _ _).trans (feq hx1).1) ?_
    show Steps p.tables e below (T7.setTop (mkF m 28 #[.val (.ref a1), .val (.ref a2)] [])) _
    refine XS.aloadN X7.here hx rfl (hb hby d1_28) rfl rfl ?_
    show Steps p.tables e below (T7.setTop (mkF m 29 #[.val (.ref a1), .val (.ref a2)] [(.ref a2)])) _
    refine XS.ifnullNo X7.here hx rfl (hb hby d1_29) rfl ?_
    show Steps p.tables e below (T7.setTop (mkF m 32 #[.val (.ref a1), .val (.ref a2)] [])) _
    refine XS.aloadN X7.here hx rfl (hb hby d1_32) rfl rfl ?_
    show Steps p.tables e below (T7.setTop (mkF m 33 #[.val (.ref a1), .val (.ref a2)] [(.ref a2)])) _
    refine st8.trans ?_
    show Steps p.tables e below (T8.setTop (mkF m 36 #[.val (.ref a1), .val (.ref a2)] [(.int r8)])) _
    refine XS.ifYes X8.here hx rfl (pc0 := 36) (pc' := 57) rfl (hb hby d1_36) rfl ((if0 _ _).trans (teq hx2).1) (by decide) (by decide) ?_
    show Steps p.tables e below (T8.setTop (mkF m 57 #[.val (.ref a1), .val (.ref a2)] [])) _
    refine XS.iconst X8.here hx rfl (hb hby d1_57) ?_
    show Steps p.tables e below (T8.setTop (mkF m 58 #[.val (.ref a1), .val (.ref a2)] [(.int (0 : Int32))])) _
    exact retN X8 hx (t := .boolean) Bd.returns (by simp) (hb hby d1_58) hr
  · show Q1_1a_fftfft Z a1 a2 w3 w5 r7 r8 h0 n0 _ T8.heap _
    exact ⟨rfl, N8, e8⟩
def P1a (Z : State) (h0 : Heap) (a1 : Addr) (a2 : Addr) (r : Option Value) : Prop := ((a2 = a1) ∧ r = some (.int (1 : Int32))) ∨ (∃ (w3 : Addr), ∃ (w5 : Addr), (Sta Z h0 "com/example/indexwright/indexwright/sql/ColumnType" "DOUBLE" "Lcom/example/indexwright/indexwright/sql/ColumnType;" (.ref w3)) ∧ (Sta Z h0 "com/example/indexwright/indexwright/sql/ColumnType" "BIGINT" "Lcom/example/indexwright/indexwright/sql/ColumnType;" (.ref w5)) ∧ (¬ (a2 = a1)) ∧ (a1 = w3) ∧ (a2 = w5) ∧ r = some (.int (1 : Int32))) ∨ (∃ (w3 : Addr), ∃ (r5 : Int32), (Sta Z h0 "com/example/indexwright/indexwright/sql/ColumnType" "DOUBLE" "Lcom/example/indexwright/indexwright/sql/ColumnType;" (.ref w3)) ∧ (Exa Z h0 a1 "com/example/indexwright/indexwright/sql/ColumnType") ∧ (¬ (a2 = a1)) ∧ (¬ (a1 = w3)) ∧ (P2 Z h0 a1 (some (.int r5))) ∧ (r5 = (0 : Int32)) ∧ r = some (.int (0 : Int32))) ∨ (∃ (w3 : Addr), ∃ (w5 : Addr), ∃ (r7 : Int32), (Sta Z h0 "com/example/indexwright/indexwright/sql/ColumnType" "DOUBLE" "Lcom/example/indexwright/indexwright/sql/ColumnType;" (.ref w3)) ∧ (Sta Z h0 "com/example/indexwright/indexwright/sql/ColumnType" "BIGINT" "Lcom/example/indexwright/indexwright/sql/ColumnType;" (.ref w5)) ∧ (Exa Z h0 a1 "com/example/indexwright/indexwright/sql/ColumnType") ∧ (¬ (a2 = a1)) ∧ (a1 = w3) ∧ (¬ (a2 = w5)) ∧ (P2 Z h0 a1 (some (.int r7))) ∧ (r7 = (0 : Int32)) ∧ r = some (.int (0 : Int32))) ∨ (∃ (w3 : Addr), ∃ (r5 : Int32), ∃ (r6 : Int32), (Sta Z h0 "com/example/indexwright/indexwright/sql/ColumnType" "DOUBLE" "Lcom/example/indexwright/indexwright/sql/ColumnType;" (.ref w3)) ∧ (Exa Z h0 a1 "com/example/indexwright/indexwright/sql/ColumnType") ∧ (Exa Z h0 a2 "com/example/indexwright/indexwright/sql/ColumnType") ∧ (¬ (a2 = a1)) ∧ (¬ (a1 = w3)) ∧ (P2 Z h0 a1 (some (.int r5))) ∧ (P2 Z h0 a2 (some (.int r6))) ∧ (¬ (r5 = (0 : Int32))) ∧ (r6 = (0 : Int32)) ∧ r = some (.int (0 : Int32))) ∨ (∃ (w3 : Addr), ∃ (w5 : Addr), ∃ (r7 : Int32), ∃ (r8 : Int32), (Sta Z h0 "com/example/indexwright/indexwright/sql/ColumnType" "DOUBLE" "Lcom/example/indexwright/indexwright/sql/ColumnType;" (.ref w3)) ∧ (Sta Z h0 "com/example/indexwright/indexwright/sql/ColumnType" "BIGINT" "Lcom/example/indexwright/indexwright/sql/ColumnType;" (.ref w5)) ∧ (Exa Z h0 a1 "com/example/indexwright/indexwright/sql/ColumnType") ∧ (Exa Z h0 a2 "com/example/indexwright/indexwright/sql/ColumnType") ∧ (¬ (a2 = a1)) ∧ (a1 = w3) ∧ (¬ (a2 = w5)) ∧ (P2 Z h0 a1 (some (.int r7))) ∧ (P2 Z h0 a2 (some (.int r8))) ∧ (¬ (r7 = (0 : Int32))) ∧ (r8 = (0 : Int32)) ∧ r = some (.int (0 : Int32)))
set_option maxRecDepth 65536 in
set_option maxHeartbeats 40000000 in
theorem own_1a (l : Launch) (Z : State) (a0 : Array Value) (hw : ∀ d ∈ tables_1, d.before a0 Z = true) (ws : List Jvm.Cond) (a1 : Addr) (a2 : Addr) (r : Option Value) (h0 : Heap) (n0 : Nat) (Z0 : n0 ≤ h0.size) (hp : P1a Z h0 a1 a2 r) :
    MetFree l (⟨"com/example/indexwright/indexwright/sql/ColumnType", "holds", "(Lcom/example/indexwright/indexwright/sql/ColumnType;)Z"⟩ : MethodName) (head1 (Jvm.Cond.code (⟨"com/example/indexwright/indexwright/sql/ColumnType", "holds", "(Lcom/example/indexwright/indexwright/sql/ColumnType;)Z"⟩ : MethodName) prog_54_method_14_code 2 (some .boolean) :: ws) ({ frames := 1, cells := 0, slots := 0, locals := 12 } : Room)) (fun a U => a = #[(.ref a1), (.ref a2)] ∧ Z.Warmed39 U.vm ∧ U.heap = h0) (fun _ _ _ _ _ => True) (fun _ U o U' => ∃ v L, o = .returned v ∧ OwnQ r h0 n0 v U'.heap L ∧ FrameEnd U o U' L ({ frames := 1, cells := 0, slots := 0, locals := 12 } : Room).cells ({ frames := 1, cells := 0, slots := 0, locals := 12 } : Room).slots) := by
  rcases hp with ⟨k0, rfl⟩ | ⟨w3, w5, k0, k1, k2, k3, k4, rfl⟩ | ⟨w3, r5, k0, k1, k2, k3, k4, k5, rfl⟩ | ⟨w3, w5, r7, k0, k1, k2, k3, k4, k5, k6, k7, rfl⟩ | ⟨w3, r5, r6, k0, k1, k2, k3, k4, k5, k6, k7, k8, rfl⟩ | ⟨w3, w5, r7, r8, k0, k1, k2, k3, k4, k5, k6, k7, k8, k9, k10, rfl⟩
  · exact rm1_1a_t l Z a0 hw ws a1 a2 h0 n0 Z0 k0
  · exact rm1_1a_fff l Z a0 hw ws a1 a2 w3 w5 h0 n0 Z0 k0 k1 k2 k3 k4
  · exact rm1_1a_ftt l Z a0 hw ws a1 a2 w3 r5 h0 n0 Z0 k0 k1 k2 k3 k4 k5
  · exact rm1_1a_fftt l Z a0 hw ws a1 a2 w3 w5 r7 h0 n0 Z0 k0 k1 k2 k3 k4 k5 k6 k7
  · exact rm1_1a_ftfft l Z a0 hw ws a1 a2 w3 r5 r6 h0 n0 Z0 k0 k1 k2 k3 k4 k5 k6 k7 k8
  · exact rm1_1a_fftfft l Z a0 hw ws a1 a2 w3 w5 r7 r8 h0 n0 Z0 k0 k1 k2 k3 k4 k5 k6 k7 k8 k9 k10
theorem P1a_keep {Z : State} {h0 h : Heap} {a1 : Addr} {a2 : Addr} {r : Option Value} (K : Keep h0 h []) (hp : P1a Z h0 a1 a2 r) : P1a Z h a1 a2 r := by
  rcases hp with ⟨k0, rfl⟩ | ⟨w3, w5, k0, k1, k2, k3, k4, rfl⟩ | ⟨w3, r5, k0, k1, k2, k3, k4, k5, rfl⟩ | ⟨w3, w5, r7, k0, k1, k2, k3, k4, k5, k6, k7, rfl⟩ | ⟨w3, r5, r6, k0, k1, k2, k3, k4, k5, k6, k7, k8, rfl⟩ | ⟨w3, w5, r7, r8, k0, k1, k2, k3, k4, k5, k6, k7, k8, k9, k10, rfl⟩
  · exact (Or.inl ⟨k0, rfl⟩)
  · exact (Or.inr (Or.inl ⟨w3, w5, (own_stak k0 K), (own_stak k1 K), k2, k3, k4, rfl⟩))
  · exact (Or.inr (Or.inr (Or.inl ⟨w3, r5, (own_stak k0 K), (k1.keep K), k2, k3, (P2_keep K k4), k5, rfl⟩)))
  · exact (Or.inr (Or.inr (Or.inr (Or.inl ⟨w3, w5, r7, (own_stak k0 K), (own_stak k1 K), (k2.keep K), k3, k4, k5, (P2_keep K k6), k7, rfl⟩))))
  · exact (Or.inr (Or.inr (Or.inr (Or.inr (Or.inl ⟨w3, r5, r6, (own_stak k0 K), (k1.keep K), (k2.keep K), k3, k4, (P2_keep K k5), (P2_keep K k6), k7, k8, rfl⟩)))))
  · exact (Or.inr (Or.inr (Or.inr (Or.inr (Or.inr ⟨w3, w5, r7, r8, (own_stak k0 K), (own_stak k1 K), (k2.keep K), (k3.keep K), k4, k5, k6, (P2_keep K k7), (P2_keep K k8), k9, k10, rfl⟩)))))
def Q1_1b_t (Z : State) (a1 : Addr) (a2 : Addr) (h0 : Heap) (n0 : Nat) (v : Option Value) (h : Heap) (L : List Loc) : Prop := v = some (.int (1 : Int32)) ∧ Fr n0 L ∧ h = h0
set_option maxRecDepth 65536 in
set_option maxHeartbeats 40000000 in
theorem rm1_1b_t (l : Launch) (Z : State) (a0 : Array Value) (hw : ∀ d ∈ tables_1, d.before a0 Z = true) (ws : List Jvm.Cond) (a1 : Addr) (a2 : Addr) (h0 : Heap) (n0 : Nat) (Z0 : n0 ≤ h0.size) (ha2 : a2 = a1) :
    MetFree l (⟨"com/example/indexwright/indexwright/sql/ColumnType", "holds", "(Lcom/example/indexwright/indexwright/sql/ColumnType;)Z"⟩ : MethodName) (head1 (Jvm.Cond.code (⟨"com/example/indexwright/indexwright/sql/ColumnType", "holds", "(Lcom/example/indexwright/indexwright/sql/ColumnType;)Z"⟩ : MethodName) prog_54_method_14_code 2 (some .boolean) :: ws) ({ frames := 2, cells := 0, slots := 0, locals := 25 } : Room)) (fun a U => a = #[(.ref a1), (.ref a2)] ∧ Z.Warmed39 U.vm ∧ U.heap = h0) (fun _ _ _ _ _ => True) (fun _ U o U' => ∃ v L, o = .returned v ∧ Q1_1b_t Z a1 a2 h0 n0 v U'.heap L ∧ FrameEnd U o U' L ({ frames := 2, cells := 0, slots := 0, locals := 25 } : Room).cells ({ frames := 2, cells := 0, slots := 0, locals := 25 } : Room).slots) := by
  refine MetFree.of_bodySF (plainFor_of_name pn_1) hisR ?_
  intro p e s m args below meth c s₁ Bd hml0 hP hK
  obtain ⟨rfl, hZ, hh⟩ := hP
  have hx := Bd.exec
  have hby := Bd.bytes
  have hml : c.maxLocals = 2 := hml0
  have hown : s.vm.findClass "com/example/indexwright/indexwright/sql/ColumnType" = some m.cls := findClass_of_methodNamed Bd.named
  have hnm := (name_of_methodNamed Bd.named Bd.method).1
  have X0 : Stand p l e ({ frames := 2, cells := 0, slots := 0, locals := 25 } : Room) s m #[(.ref a1), (.ref a2)] below meth c s₁ [] 0 0 := Stand.of_body Bd
  have e0 : s₁.heap = h0 := by rw [← hh, Bd.state]; rfl
  have N0 := Fr.nil n0
  have pre0 : ∀ t, Steps p.tables e below (s₁.setTop (mkF m 0 #[.val (.ref a1), .val (.ref a2)] [])) t → Steps p.tables e below (s₁.setTop (entryFrame m #[(.ref a1), (.ref a2)] 2)) t := fun t k => castTop (ef_1 m a1 a2) k
  -- 3. LAWS

  obtain ⟨fs, hr, hrun, hended, hW, hsame⟩ := X0.leave (v := some (.int (1 : Int32))) (fun h => by rw [Bd.returns] at h; cases h)
  refine ⟨_, _, pre0 _ ?_, hrun, hended, _, _, rfl, ?_, ⟨_, rfl⟩, hW, hsame.mono (by decide) (by decide)⟩
  -- 4. STEPS
  · show Steps p.tables e below (s₁.setTop (mkF m 0 #[.val (.ref a1), .val (.ref a2)] [])) _
    refine XS.aloadN X0.here hx rfl (hb hby d1_0) rfl rfl ?_
    show Steps p.tables e below (s₁.setTop (mkF m 1 #[.val (.ref a1), .val (.ref a2)] [(.ref a2)])) _
    refine XS.aloadN X0.here hx rfl (hb hby d1_1) rfl rfl ?_
    show Steps p.tables e below (s₁.setTop (mkF m 2 #[.val (.ref a1), .val (.ref a2)] [(.ref a1), (.ref a2)])) _
    refine Jvm.RoadKit.acmp (g := (mkF m 2 #[.val (.ref a1), .val (.ref a2)] [(.ref a1), (.ref a2)])) X0 hx rfl rfl rfl (pc0 := 2) (pc' := 19) (same := true) rfl (hb hby d1_2) rfl (decide_eq_true (congrArg Value.ref ha2)) (by decide) (by decide) ?_
    show Steps p.tables e below (s₁.setTop (mkF m 19 #[.val (.ref a1), .val (.ref a2)] [])) _
    refine XS.iconst X0.here hx rfl (hb hby d1_19) ?_
    show Steps p.tables e below (s₁.setTop (mkF m 20 #[.val (.ref a1), .val (.ref a2)] [(.int (1 : Int32))])) _
    exact retN X0 hx (t := .boolean) Bd.returns (by simp) (hb hby d1_20) hr
  · show Q1_1b_t Z a1 a2 h0 n0 _ s₁.heap _
    rw [e0]
    exact ⟨rfl, N0, rfl⟩
def Q1_1b_fff (Z : State) (a1 : Addr) (a2 : Addr) (w3 : Addr) (w5 : Addr) (h0 : Heap) (n0 : Nat) (v : Option Value) (h : Heap) (L : List Loc) : Prop := v = some (.int (1 : Int32)) ∧ Fr n0 L ∧ h = h0
set_option maxRecDepth 65536 in
set_option maxHeartbeats 40000000 in
theorem rm1_1b_fff (l : Launch) (Z : State) (a0 : Array Value) (hw : ∀ d ∈ tables_1, d.before a0 Z = true) (ws : List Jvm.Cond) (a1 : Addr) (a2 : Addr) (w3 : Addr) (w5 : Addr) (h0 : Heap) (n0 : Nat) (Z0 : n0 ≤ h0.size) (S_DOUBLE : Sta Z h0 "com/example/indexwright/indexwright/sql/ColumnType" "DOUBLE" "Lcom/example/indexwright/indexwright/sql/ColumnType;" (.ref w3)) (S_BIGINT : Sta Z h0 "com/example/indexwright/indexwright/sql/ColumnType" "BIGINT" "Lcom/example/indexwright/indexwright/sql/ColumnType;" (.ref w5)) (ha2 : ¬ (a2 = a1)) (ha9 : a1 = w3) (ha16 : a2 = w5) :
    MetFree l (⟨"com/example/indexwright/indexwright/sql/ColumnType", "holds", "(Lcom/example/indexwright/indexwright/sql/ColumnType;)Z"⟩ : MethodName) (head1 (Jvm.Cond.code (⟨"com/example/indexwright/indexwright/sql/ColumnType", "holds", "(Lcom/example/indexwright/indexwright/sql/ColumnType;)Z"⟩ : MethodName) prog_54_method_14_code 2 (some .boolean) :: ws) ({ frames := 2, cells := 0, slots := 0, locals := 25 } : Room)) (fun a U => a = #[(.ref a1), (.ref a2)] ∧ Z.Warmed39 U.vm ∧ U.heap = h0) (fun _ _ _ _ _ => True) (fun _ U o U' => ∃ v L, o = .returned v ∧ Q1_1b_fff Z a1 a2 w3 w5 h0 n0 v U'.heap L ∧ FrameEnd U o U' L ({ frames := 2, cells := 0, slots := 0, locals := 25 } : Room).cells ({ frames := 2, cells := 0, slots := 0, locals := 25 } : Room).slots) := by
  refine MetFree.of_bodySF (plainFor_of_name pn_1) hisR ?_
  intro p e s m args below meth c s₁ Bd hml0 hP hK
  obtain ⟨rfl, hZ, hh⟩ := hP
  have hx := Bd.exec
  have hby := Bd.bytes
  have hml : c.maxLocals = 2 := hml0
  have hown : s.vm.findClass "com/example/indexwright/indexwright/sql/ColumnType" = some m.cls := findClass_of_methodNamed Bd.named
  have hnm := (name_of_methodNamed Bd.named Bd.method).1
  have X0 : Stand p l e ({ frames := 2, cells := 0, slots := 0, locals := 25 } : Room) s m #[(.ref a1), (.ref a2)] below meth c s₁ [] 0 0 := Stand.of_body Bd
  have e0 : s₁.heap = h0 := by rw [← hh, Bd.state]; rfl
  have N0 := Fr.nil n0
  have pre0 : ∀ t, Steps p.tables e below (s₁.setTop (mkF m 0 #[.val (.ref a1), .val (.ref a2)] [])) t → Steps p.tables e below (s₁.setTop (entryFrame m #[(.ref a1), (.ref a2)] 2)) t := fun t k => castTop (ef_1 m a1 a2) k
  -- 3. LAWS
  obtain ⟨T4, X4, e4, st4⟩ := getS2 X0 hx hZ hown (host := "") (Or.inl (hw _ (List.mem_of_getElem? (i := 22) rfl))) Via.refl e0 S_DOUBLE (g := (mkF m 6 #[.val (.ref a1), .val (.ref a2)] [(.ref a1)])) rfl (hb hby d1_6)
  obtain ⟨T6, X6, e6, st6⟩ := getS2 X4 hx hZ hown (host := "") (Or.inl (hw _ (List.mem_of_getElem? (i := 30) rfl))) Via.refl e4 S_BIGINT (g := (mkF m 13 #[.val (.ref a1), .val (.ref a2)] [(.ref a2)])) rfl (hb hby d1_13)
  obtain ⟨fs, hr, hrun, hended, hW, hsame⟩ := X6.leave (v := some (.int (1 : Int32))) (fun h => by rw [Bd.returns] at h; cases h)
  refine ⟨_, _, pre0 _ ?_, hrun, hended, _, _, rfl, ?_, ⟨_, rfl⟩, hW, hsame.mono (by decide) (by decide)⟩
  -- 4. STEPS
  · show Steps p.tables e below (s₁.setTop (mkF m 0 #[.val (.ref a1), .val (.ref a2)] [])) _
    refine XS.aloadN X0.here hx rfl (hb hby d1_0) rfl rfl ?_
    show Steps p.tables e below (s₁.setTop (mkF m 1 #[.val (.ref a1), .val (.ref a2)] [(.ref a2)])) _
    refine XS.aloadN X0.here hx rfl (hb hby d1_1) rfl rfl ?_
    show Steps p.tables e below (s₁.setTop (mkF m 2 #[.val (.ref a1), .val (.ref a2)] [(.ref a1), (.ref a2)])) _
    refine Jvm.RoadKit.acmp (g := (mkF m 2 #[.val (.ref a1), .val (.ref a2)] [(.ref a1), (.ref a2)])) X0 hx rfl rfl rfl (pc0 := 2) (pc' := 5) (same := false) rfl (hb hby d1_2) rfl (decide_eq_false fun q => ha2 (Value.ref.inj q)) (by decide) (by decide) ?_
    show Steps p.tables e below (s₁.setTop (mkF m 5 #[.val (.ref a1), .val (.ref a2)] [])) _
    refine XS.aloadN X0.here hx rfl (hb hby d1_5) rfl rfl ?_
    show Steps p.tables e below (s₁.setTop (mkF m 6 #[.val (.ref a1), .val (.ref a2)] [(.ref a1)])) _
    refine st4 _ ?_
    show Steps p.tables e below (T4.setTop (mkF m 9 #[.val (.ref a1), .val (.ref a2)] [(.ref w3), (.ref a1)])) _
    refine Jvm.RoadKit.acmp (g := (mkF m 9 #[.val (.ref a1), .val (.ref a2)] [(.ref w3), (.ref a1)])) X4 hx rfl rfl rfl (pc0 := 9) (pc' := 12) (same := true) rfl (hb hby d1_9) rfl (decide_eq_true (congrArg Value.ref ha9)) (by decide) (by decide) ?_
    show Steps p.tables e below (T4.setTop (mkF m 12 #[.val (.ref a1), .val (.ref a2)] [])) _
    refine XS.aloadN X4.here hx rfl (hb hby d1_12) rfl rfl ?_
    show Steps p.tables e below (T4.setTop (mkF m 13 #[.val (.ref a1), .val (.ref a2)] [(.ref a2)])) _
    refine st6 _ ?_
    show Steps p.tables e below (T6.setTop (mkF m 16 #[.val (.ref a1), .val (.ref a2)] [(.ref w5), (.ref a2)])) _
    refine Jvm.RoadKit.acmp (g := (mkF m 16 #[.val (.ref a1), .val (.ref a2)] [(.ref w5), (.ref a2)])) X6 hx rfl rfl rfl (pc0 := 16) (pc' := 19) (same := true) rfl (hb hby d1_16) rfl (decide_eq_true (congrArg Value.ref ha16)) (by decide) (by decide) ?_
    show Steps p.tables e below (T6.setTop (mkF m 19 #[.val (.ref a1), .val (.ref a2)] [])) _
    refine XS.iconst X6.here hx rfl (hb hby d1_19) ?_
    show Steps p.tables e below (T6.setTop (mkF m 20 #[.val (.ref a1), .val (.ref a2)] [(.int (1 : Int32))])) _
    exact retN X6 hx (t := .boolean) Bd.returns (by simp) (hb hby d1_20) hr
  · show Q1_1b_fff Z a1 a2 w3 w5 h0 n0 _ T6.heap _
    rw [e6]
    exact ⟨rfl, N0, rfl⟩
def Q1_1b_ftt (Z : State) (a1 : Addr) (a2 : Addr) (w3 : Addr) (r5 : Int32) (h0 : Heap) (n0 : Nat) (v : Option Value) (h : Heap) (L : List Loc) : Prop := v = some (.int (0 : Int32)) ∧ Fr n0 L ∧ h = h0
set_option maxRecDepth 65536 in
set_option maxHeartbeats 40000000 in
theorem rm1_1b_ftt (l : Launch) (Z : State) (a0 : Array Value) (hw : ∀ d ∈ tables_1, d.before a0 Z = true) (ws : List Jvm.Cond) (a1 : Addr) (a2 : Addr) (w3 : Addr) (r5 : Int32) (h0 : Heap) (n0 : Nat) (Z0 : n0 ≤ h0.size) (S_DOUBLE : Sta Z h0 "com/example/indexwright/indexwright/sql/ColumnType" "DOUBLE" "Lcom/example/indexwright/indexwright/sql/ColumnType;" (.ref w3)) (E_a1 : Exa Z h0 a1 "com/example/indexwright/indexwright/sql/ColumnType") (ha2 : ¬ (a2 = a1)) (ha9 : ¬ (a1 = w3)) (hP5 : P2 Z h0 a1 (some (.int r5))) (hx1 : r5 = (0 : Int32)) :
    MetFree l (⟨"com/example/indexwright/indexwright/sql/ColumnType", "holds", "(Lcom/example/indexwright/indexwright/sql/ColumnType;)Z"⟩ : MethodName) (head1 (Jvm.Cond.code (⟨"com/example/indexwright/indexwright/sql/ColumnType", "holds", "(Lcom/example/indexwright/indexwright/sql/ColumnType;)Z"⟩ : MethodName) prog_54_method_14_code 2 (some .boolean) :: ws) ({ frames := 2, cells := 0, slots := 0, locals := 25 } : Room)) (fun a U => a = #[(.ref a1), (.ref a2)] ∧ Z.Warmed39 U.vm ∧ U.heap = h0) (fun _ _ _ _ _ => True) (fun _ U o U' => ∃ v L, o = .returned v ∧ Q1_1b_ftt Z a1 a2 w3 r5 h0 n0 v U'.heap L ∧ FrameEnd U o U' L ({ frames := 2, cells := 0, slots := 0, locals := 25 } : Room).cells ({ frames := 2, cells := 0, slots := 0, locals := 25 } : Room).slots) := by
  refine MetFree.of_bodySF (plainFor_of_name pn_1) hisR ?_
  intro p e s m args below meth c s₁ Bd hml0 hP hK
  obtain ⟨rfl, hZ, hh⟩ := hP
  have hx := Bd.exec
  have hby := Bd.bytes
  have hml : c.maxLocals = 2 := hml0
  have hown : s.vm.findClass "com/example/indexwright/indexwright/sql/ColumnType" = some m.cls := findClass_of_methodNamed Bd.named
  have hnm := (name_of_methodNamed Bd.named Bd.method).1
  have X0 : Stand p l e ({ frames := 2, cells := 0, slots := 0, locals := 25 } : Room) s m #[(.ref a1), (.ref a2)] below meth c s₁ [] 0 0 := Stand.of_body Bd
  have e0 : s₁.heap = h0 := by rw [← hh, Bd.state]; rfl
  have N0 := Fr.nil n0
  have pre0 : ∀ t, Steps p.tables e below (s₁.setTop (mkF m 0 #[.val (.ref a1), .val (.ref a2)] [])) t → Steps p.tables e below (s₁.setTop (entryFrame m #[(.ref a1), (.ref a2)] 2)) t := fun t k => castTop (ef_1 m a1 a2) k
  -- 3. LAWS
  obtain ⟨T4, X4, e4, st4⟩ := getS2 X0 hx hZ hown (host := "") (Or.inl (hw _ (List.mem_of_getElem? (i := 22) rfl))) Via.refl e0 S_DOUBLE (g := (mkF m 6 #[.val (.ref a1), .val (.ref a2)] [(.ref a1)])) rfl (hb hby d1_6)
  -- pc 22: com/example/indexwright/indexwright/sql/ColumnType.isArray by the contract of the body that the receiver's class selects, rm2
  obtain ⟨cq5, kq5, q5a, q5b, q5c⟩ := isOf hZ e4 E_a1
  obtain ⟨_, _, ⟨T5, L5, k5, n5⟩, -, X5, ⟨Lc5, hQ5, l5, y5, z5⟩, st5⟩ := X4.virtualBack hx (y := (⟨"com/example/indexwright/indexwright/sql/ColumnType", "isArray", "()Z"⟩ : MethodName)) (z := (⟨"com/example/indexwright/indexwright/sql/ColumnType", "isArray", "()Z"⟩ : MethodName)) hown (mvT hZ (hw _ (List.mem_of_getElem? (i := 23) rfl))) (mvT hZ (hw _ (List.mem_of_getElem? (i := 24) rfl))) (notFace_of_selects (args := #[]) (mvT hZ (hw _ (List.mem_of_getElem? (i := 26) rfl)))) (mvT hZ (hw _ (List.mem_of_getElem? (i := 26) rfl))) (mvT hZ (hw _ (List.mem_of_getElem? (i := 25) rfl))) (by decide) (backOf (W := 0) (own_2 l Z a0 hw [] a1 (some (.int r5)) h0 n0 Z0 hP5) hZ (hw _ (List.mem_of_getElem? (i := 27) rfl)) (hw _ (List.mem_of_getElem? (i := 3) rfl)) (by decide) (by decide)) q5a q5c (g := (mkF m 22 #[.val (.ref a1), .val (.ref a2)] [(.ref a1)])) rfl (by rw [hml]; rfl) (Steps.refl _) (argsL := []) (rest := []) (lenOf pd_1_1 rfl) rfl (by show 2 * 0 + _ ≤ _; exact Nat.le_of_eq rfl) (hb hby d1_22) (fun _ _ => ⟨rfl, e4, (by decide : 0 + 0 ≤ _), (by decide : 0 + 0 ≤ _)⟩)
  dsimp only [Pt.U, Pt.locs, Pt.cells, Pt.slots] at X5 l5 y5 z5 st5 hQ5
  subst l5 y5 z5
  obtain ⟨rfl, N5q, e5⟩ := hQ5      -- what it returned, that it wrote nothing old, and the rest of your Q2
  have N5 := Fr.app N0 N5q
  obtain ⟨fs, hr, hrun, hended, hW, hsame⟩ := X5.leave (v := some (.int (0 : Int32))) (fun h => by rw [Bd.returns] at h; cases h)
  refine ⟨_, _, pre0 _ ?_, hrun, hended, _, _, rfl, ?_, ⟨_, rfl⟩, hW, hsame.mono (by decide) (by decide)⟩
  -- 4. STEPS
  · show Steps p.tables e below (s₁.setTop (mkF m 0 #[.val (.ref a1), .val (.ref a2)] [])) _
    refine XS.aloadN X0.here hx rfl (hb hby d1_0) rfl rfl ?_
    show Steps p.tables e below (s₁.setTop (mkF m 1 #[.val (.ref a1), .val (.ref a2)] [(.ref a2)])) _
    refine XS.aloadN X0.here hx rfl (hb hby d1_1) rfl rfl ?_
    show Steps p.tables e below (s₁.setTop (mkF m 2 #[.val (.ref a1), .val (.ref a2)] [(.ref a1), (.ref a2)])) _
    refine Jvm.RoadKit.acmp (g := (mkF m 2 #[.val (.ref a1), .val (.ref a2)] [(.ref a1), (.ref a2)])) X0 hx rfl rfl rfl (pc0 := 2) (pc' := 5) (same := false) rfl (hb hby d1_2) rfl (decide_eq_false fun q => ha2 (Value.ref.inj q)) (by decide) (by decide) ?_
    show Steps p.tables e below (s₁.setTop (mkF m 5 #[.val (.ref a1), .val (.ref a2)] [])) _
    refine XS.aloadN X0.here hx rfl (hb hby d1_5) rfl rfl ?_
    show Steps p.tables e below (s₁.setTop (mkF m 6 #[.val (.ref a1), .val (.ref a2)] [(.ref a1)])) _
    refine st4 _ ?_
    show Steps p.tables e below (T4.setTop (mkF m 9 #[.val (.ref a1), .val (.ref a2)] [(.ref w3), (.ref a1)])) _
    refine Jvm.RoadKit.acmp (g := (mkF m 9 #[.val (.ref a1), .val (.ref a2)] [(.ref w3), (.ref a1)])) X4 hx rfl rfl rfl (pc0 := 9) (pc' := 21) (same := false) rfl (hb hby d1_9) rfl (decide_eq_false fun q => ha9 (Value.ref.inj q)) (by decide) (by decide) ?_
    show Steps p.tables e below (T4.setTop (mkF m 21 #[.val (.ref a1), .val (.ref a2)] [])) _
    refine XS.aloadN X4.here hx rfl (hb hby d1_21) rfl rfl ?_
    show Steps p.tables e below (T4.setTop (mkF m 22 #[.val (.ref a1), .val (.ref a2)] [(.ref a1)])) _
    refine st5.trans ?_
    show Steps p.tables e below (T5.setTop (mkF m 25 #[.val (.ref a1), .val (.ref a2)] [(.int r5)])) _
    refine XS.ifYes X5.here hx rfl (pc0 := 25) (pc' := 57) rfl (hb hby d1_25) rfl ((if0 _ _).trans (teq hx1).1) (by decide) (by decide) ?_
    show Steps p.tables e below (T5.setTop (mkF m 57 #[.val (.ref a1), .val (.ref a2)] [])) _
    refine XS.iconst X5.here hx rfl (hb hby d1_57) ?_
    show Steps p.tables e below (T5.setTop (mkF m 58 #[.val (.ref a1), .val (.ref a2)] [(.int (0 : Int32))])) _
    exact retN X5 hx (t := .boolean) Bd.returns (by simp) (hb hby d1_58) hr
  · show Q1_1b_ftt Z a1 a2 w3 r5 h0 n0 _ T5.heap _
    exact ⟨rfl, N5, e5⟩
def Q1_1b_fftt (Z : State) (a1 : Addr) (a2 : Addr) (w3 : Addr) (w5 : Addr) (r7 : Int32) (h0 : Heap) (n0 : Nat) (v : Option Value) (h : Heap) (L : List Loc) : Prop := v = some (.int (0 : Int32)) ∧ Fr n0 L ∧ h = h0
set_option maxRecDepth 65536 in
set_option maxHeartbeats 40000000 in
theorem rm1_1b_fftt (l : Launch) (Z : State) (a0 : Array Value) (hw : ∀ d ∈ tables_1, d.before a0 Z = true) (ws : List Jvm.Cond) (a1 : Addr) (a2 : Addr) (w3 : Addr) (w5 : Addr) (r7 : Int32) (h0 : Heap) (n0 : Nat) (Z0 : n0 ≤ h0.size) (S_DOUBLE : Sta Z h0 "com/example/indexwright/indexwright/sql/ColumnType" "DOUBLE" "Lcom/example/indexwright/indexwright/sql/ColumnType;" (.ref w3)) (S_BIGINT : Sta Z h0 "com/example/indexwright/indexwright/sql/ColumnType" "BIGINT" "Lcom/example/indexwright/indexwright/sql/ColumnType;" (.ref w5)) (E_a1 : Exa Z h0 a1 "com/example/indexwright/indexwright/sql/ColumnType") (ha2 : ¬ (a2 = a1)) (ha9 : a1 = w3) (ha16 : ¬ (a2 = w5)) (hP7 : P2 Z h0 a1 (some (.int r7))) (hx1 : r7 = (0 : Int32)) :
    MetFree l (⟨"com/example/indexwright/indexwright/sql/ColumnType", "holds", "(Lcom/example/indexwright/indexwright/sql/ColumnType;)Z"⟩ : MethodName) (head1 (Jvm.Cond.code (⟨"com/example/indexwright/indexwright/sql/ColumnType", "holds", "(Lcom/example/indexwright/indexwright/sql/ColumnType;)Z"⟩ : MethodName) prog_54_method_14_code 2 (some .boolean) :: ws) ({ frames := 2, cells := 0, slots := 0, locals := 25 } : Room)) (fun a U => a = #[(.ref a1), (.ref a2)] ∧ Z.Warmed39 U.vm ∧ U.heap = h0) (fun _ _ _ _ _ => True) (fun _ U o U' => ∃ v L, o = .returned v ∧ Q1_1b_fftt Z a1 a2 w3 w5 r7 h0 n0 v U'.heap L ∧ FrameEnd U o U' L ({ frames := 2, cells := 0, slots := 0, locals := 25 } : Room).cells ({ frames := 2, cells := 0, slots := 0, locals := 25 } : Room).slots) := by
  refine MetFree.of_bodySF (plainFor_of_name pn_1) hisR ?_
  intro p e s m args below meth c s₁ Bd hml0 hP hK
  obtain ⟨rfl, hZ, hh⟩ := hP
  have hx := Bd.exec
  have hby := Bd.bytes
  have hml : c.maxLocals = 2 := hml0
  have hown : s.vm.findClass "com/example/indexwright/indexwright/sql/ColumnType" = some m.cls := findClass_of_methodNamed Bd.named
  have hnm := (name_of_methodNamed Bd.named Bd.method).1
  have X0 : Stand p l e ({ frames := 2, cells := 0, slots := 0, locals := 25 } : Room) s m #[(.ref a1), (.ref a2)] below meth c s₁ [] 0 0 := Stand.of_body Bd
  have e0 : s₁.heap = h0 := by rw [← hh, Bd.state]; rfl
  have N0 := Fr.nil n0
  have pre0 : ∀ t, Steps p.tables e below (s₁.setTop (mkF m 0 #[.val (.ref a1), .val (.ref a2)] [])) t → Steps p.tables e below (s₁.setTop (entryFrame m #[(.ref a1), (.ref a2)] 2)) t := fun t k => castTop (ef_1 m a1 a2) k
  -- 3. LAWS
  obtain ⟨T4, X4, e4, st4⟩ := getS2 X0 hx hZ hown (host := "") (Or.inl (hw _ (List.mem_of_getElem? (i := 22) rfl))) Via.refl e0 S_DOUBLE (g := (mkF m 6 #[.val (.ref a1), .val (.ref a2)] [(.ref a1)])) rfl (hb hby d1_6)
  obtain ⟨T6, X6, e6, st6⟩ := getS2 X4 hx hZ hown (host := "") (Or.inl (hw _ (List.mem_of_getElem? (i := 30) rfl))) Via.refl e4 S_BIGINT (g := (mkF m 13 #[.val (.ref a1), .val (.ref a2)] [(.ref a2)])) rfl (hb hby d1_13)
  -- pc 22: com/example/indexwright/indexwright/sql/ColumnType.isArray by the contract of the body that the receiver's class selects, rm2
  obtain ⟨cq7, kq7, q7a, q7b, q7c⟩ := isOf hZ e6 E_a1
  obtain ⟨_, _, ⟨T7, L7, k7, n7⟩, -, X7, ⟨Lc7, hQ7, l7, y7, z7⟩, st7⟩ := X6.virtualBack hx (y := (⟨"com/example/indexwright/indexwright/sql/ColumnType", "isArray", "()Z"⟩ : MethodName)) (z := (⟨"com/example/indexwright/indexwright/sql/ColumnType", "isArray", "()Z"⟩ : MethodName)) hown (mvT hZ (hw _ (List.mem_of_getElem? (i := 23) rfl))) (mvT hZ (hw _ (List.mem_of_getElem? (i := 24) rfl))) (notFace_of_selects (args := #[]) (mvT hZ (hw _ (List.mem_of_getElem? (i := 26) rfl)))) (mvT hZ (hw _ (List.mem_of_getElem? (i := 26) rfl))) (mvT hZ (hw _ (List.mem_of_getElem? (i := 25) rfl))) (by decide) (backOf (W := 0) (own_2 l Z a0 hw [] a1 (some (.int r7)) h0 n0 Z0 hP7) hZ (hw _ (List.mem_of_getElem? (i := 27) rfl)) (hw _ (List.mem_of_getElem? (i := 3) rfl)) (by decide) (by decide)) q7a q7c (g := (mkF m 22 #[.val (.ref a1), .val (.ref a2)] [(.ref a1)])) rfl (by rw [hml]; rfl) (Steps.refl _) (argsL := []) (rest := []) (lenOf pd_1_1 rfl) rfl (by show 2 * 0 + _ ≤ _; exact Nat.le_of_eq rfl) (hb hby d1_22) (fun _ _ => ⟨rfl, e6, (by decide : 0 + 0 ≤ _), (by decide : 0 + 0 ≤ _)⟩)
  dsimp only [Pt.U, Pt.locs, Pt.cells, Pt.slots] at X7 l7 y7 z7 st7 hQ7
  subst l7 y7 z7
  obtain ⟨rfl, N7q, e7⟩ := hQ7      -- what it returned, that it wrote nothing old, and the rest of your Q2
  have N7 := Fr.app N0 N7q
  obtain ⟨fs, hr, hrun, hended, hW, hsame⟩ := X7.leave (v := some (.int (0 : Int32))) (fun h => by rw [Bd.returns] at h; cases h)
  refine ⟨_, _, pre0 _ ?_, hrun, hended, _, _, rfl, ?_, ⟨_, rfl⟩, hW, hsame.mono (by decide) (by decide)⟩
  -- 4. STEPS
  · show Steps p.tables e below (s₁.setTop (mkF m 0 #[.val (.ref a1), .val (.ref a2)] [])) _
    refine XS.aloadN X0.here hx rfl (hb hby d1_0) rfl rfl ?_
    show Steps p.tables e below (s₁.setTop (mkF m 1 #[.val (.ref a1), .val (.ref a2)] [(.ref a2)])) _
    refine XS.aloadN X0.here hx rfl (hb hby d1_1) rfl rfl ?_
    show Steps p.tables e below (s₁.setTop (mkF m 2 #[.val (.ref a1), .val (.ref a2)] [(.ref a1), (.ref a2)])) _
    refine Jvm.RoadKit.acmp (g := (mkF m 2 #[.val (.ref a1), .val (.ref a2)] [(.ref a1), (.ref a2)])) X0 hx rfl rfl rfl (pc0 := 2) (pc' := 5) (same := false) rfl (hb hby d1_2) rfl (decide_eq_false fun q => ha2 (Value.ref.inj q)) (by decide) (by decide) ?_
    show Steps p.tables e below (s₁.setTop (mkF m 5 #[.val (.ref a1), .val (.ref a2)] [])) _
    refine XS.aloadN X0.here hx rfl (hb hby d1_5) rfl rfl ?_
    show Steps p.tables e below (s₁.setTop (mkF m 6 #[.val (.ref a1), .val (.ref a2)] [(.ref a1)])) _
    refine st4 _ ?_
    show Steps p.tables e below (T4.setTop (mkF m 9 #[.val (.ref a1), .val (.ref a2)] [(.ref w3), (.ref a1)])) _
    refine Jvm.RoadKit.acmp (g := (mkF m 9 #[.val (.ref a1), .val (.ref a2)] [(.ref w3), (.ref a1)])) X4 hx rfl rfl rfl (pc0 := 9) (pc' := 12) (same := true) rfl (hb hby d1_9) rfl (decide_eq_true (congrArg Value.ref ha9)) (by decide) (by decide) ?_
    show Steps p.tables e below (T4.setTop (mkF m 12 #[.val (.ref a1), .val (.ref a2)] [])) _
    refine XS.aloadN X4.here hx rfl (hb hby d1_12) rfl rfl ?_
    show Steps p.tables e below (T4.setTop (mkF m 13 #[.val (.ref a1), .val (.ref a2)] [(.ref a2)])) _
    refine st6 _ ?_
    show Steps p.tables e below (T6.setTop (mkF m 16 #[.val (.ref a1), .val (.ref a2)] [(.ref w5), (.ref a2)])) _
    refine Jvm.RoadKit.acmp (g := (mkF m 16 #[.val (.ref a1), .val (.ref a2)] [(.ref w5), (.ref a2)])) X6 hx rfl rfl rfl (pc0 := 16) (pc' := 21) (same := false) rfl (hb hby d1_16) rfl (decide_eq_false fun q => ha16 (Value.ref.inj q)) (by decide) (by decide) ?_
    show Steps p.tables e below (T6.setTop (mkF m 21 #[.val (.ref a1), .val (.ref a2)] [])) _
    refine XS.aloadN X6.here hx rfl (hb hby d1_21) rfl rfl ?_
    show Steps p.tables e below (T6.setTop (mkF m 22 #[.val (.ref a1), .val (.ref a2)] [(.ref a1)])) _
    refine st7.trans ?_
    show Steps p.tables e below (T7.setTop (mkF m 25 #[.val (.ref a1), .val (.ref a2)] [(.int r7)])) _
    refine XS.ifYes X7.here hx rfl (pc0 := 25) (pc' := 57) rfl (hb hby d1_25) rfl ((if0 _ _).trans (teq hx1).1) (by decide) (by decide) ?_
    show Steps p.tables e below (T7.setTop (mkF m 57 #[.val (.ref a1), .val (.ref a2)] [])) _
    refine XS.iconst X7.here hx rfl (hb hby d1_57) ?_
    show Steps p.tables e below (T7.setTop (mkF m 58 #[.val (.ref a1), .val (.ref a2)] [(.int (0 : Int32))])) _
    exact retN X7 hx (t := .boolean) Bd.returns (by simp) (hb hby d1_58) hr
  · show Q1_1b_fftt Z a1 a2 w3 w5 r7 h0 n0 _ T7.heap _
    exact ⟨rfl, N7, e7⟩
def Q1_1b_ftfft (Z : State) (a1 : Addr) (a2 : Addr) (w3 : Addr) (r5 : Int32) (r6 : Int32) (h0 : Heap) (n0 : Nat) (v : Option Value) (h : Heap) (L : List Loc) : Prop := v = some (.int (0 : Int32)) ∧ Fr n0 L ∧ h = h0
set_option maxRecDepth 65536 in
set_option maxHeartbeats 40000000 in
theorem rm1_1b_ftfft (l : Launch) (Z : State) (a0 : Array Value) (hw : ∀ d ∈ tables_1, d.before a0 Z = true) (ws : List Jvm.Cond) (a1 : Addr) (a2 : Addr) (w3 : Addr) (r5 : Int32) (r6 : Int32) (h0 : Heap) (n0 : Nat) (Z0 : n0 ≤ h0.size) (S_DOUBLE : Sta Z h0 "com/example/indexwright/indexwright/sql/ColumnType" "DOUBLE" "Lcom/example/indexwright/indexwright/sql/ColumnType;" (.ref w3)) (E_a1 : Exa Z h0 a1 "com/example/indexwright/indexwright/sql/ColumnType") (E_a2 : Exa Z h0 a2 "com/example/indexwright/indexwright/sql/ColumnType") (ha2 : ¬ (a2 = a1)) (ha9 : ¬ (a1 = w3)) (hP5 : P2 Z h0 a1 (some (.int r5))) (hP6 : P2 Z h0 a2 (some (.int r6))) (hx1 : ¬ (r5 = (0 : Int32))) (hx2 : r6 = (0 : Int32)) :
    MetFree l (⟨"com/example/indexwright/indexwright/sql/ColumnType", "holds", "(Lcom/example/indexwright/indexwright/sql/ColumnType;)Z"⟩ : MethodName) (head1 (Jvm.Cond.code (⟨"com/example/indexwright/indexwright/sql/ColumnType", "holds", "(Lcom/example/indexwright/indexwright/sql/ColumnType;)Z"⟩ : MethodName) prog_54_method_14_code 2 (some .boolean) :: ws) ({ frames := 2, cells := 0, slots := 0, locals := 25 } : Room)) (fun a U => a = #[(.ref a1), (.ref a2)] ∧ Z.Warmed39 U.vm ∧ U.heap = h0) (fun _ _ _ _ _ => True) (fun _ U o U' => ∃ v L, o = .returned v ∧ Q1_1b_ftfft Z a1 a2 w3 r5 r6 h0 n0 v U'.heap L ∧ FrameEnd U o U' L ({ frames := 2, cells := 0, slots := 0, locals := 25 } : Room).cells ({ frames := 2, cells := 0, slots := 0, locals := 25 } : Room).slots) := by
  refine MetFree.of_bodySF (plainFor_of_name pn_1) hisR ?_
  intro p e s m args below meth c s₁ Bd hml0 hP hK
  obtain ⟨rfl, hZ, hh⟩ := hP
  have hx := Bd.exec
  have hby := Bd.bytes
  have hml : c.maxLocals = 2 := hml0
  have hown : s.vm.findClass "com/example/indexwright/indexwright/sql/ColumnType" = some m.cls := findClass_of_methodNamed Bd.named
  have hnm := (name_of_methodNamed Bd.named Bd.method).1
  have X0 : Stand p l e ({ frames := 2, cells := 0, slots := 0, locals := 25 } : Room) s m #[(.ref a1), (.ref a2)] below meth c s₁ [] 0 0 := Stand.of_body Bd
  have e0 : s₁.heap = h0 := by rw [← hh, Bd.state]; rfl
  have N0 := Fr.nil n0
  have pre0 : ∀ t, Steps p.tables e below (s₁.setTop (mkF m 0 #[.val (.ref a1), .val (.ref a2)] [])) t → Steps p.tables e below (s₁.setTop (entryFrame m #[(.ref a1), (.ref a2)] 2)) t := fun t k => castTop (ef_1 m a1 a2) k
  -- 3. LAWS
  obtain ⟨T4, X4, e4, st4⟩ := getS2 X0 hx hZ hown (host := "") (Or.inl (hw _ (List.mem_of_getElem? (i := 22) rfl))) Via.refl e0 S_DOUBLE (g := (mkF m 6 #[.val (.ref a1), .val (.ref a2)] [(.ref a1)])) rfl (hb hby d1_6)
  -- pc 22: com/example/indexwright/indexwright/sql/ColumnType.isArray by the contract of the body that the receiver's class selects, rm2
  obtain ⟨cq5, kq5, q5a, q5b, q5c⟩ := isOf hZ e4 E_a1
  obtain ⟨_, _, ⟨T5, L5, k5, n5⟩, -, X5, ⟨Lc5, hQ5, l5, y5, z5⟩, st5⟩ := X4.virtualBack hx (y := (⟨"com/example/indexwright/indexwright/sql/ColumnType", "isArray", "()Z"⟩ : MethodName)) (z := (⟨"com/example/indexwright/indexwright/sql/ColumnType", "isArray", "()Z"⟩ : MethodName)) hown (mvT hZ (hw _ (List.mem_of_getElem? (i := 23) rfl))) (mvT hZ (hw _ (List.mem_of_getElem? (i := 24) rfl))) (notFace_of_selects (args := #[]) (mvT hZ (hw _ (List.mem_of_getElem? (i := 26) rfl)))) (mvT hZ (hw _ (List.mem_of_getElem? (i := 26) rfl))) (mvT hZ (hw _ (List.mem_of_getElem? (i := 25) rfl))) (by decide) (backOf (W := 0) (own_2 l Z a0 hw [] a1 (some (.int r5)) h0 n0 Z0 hP5) hZ (hw _ (List.mem_of_getElem? (i := 27) rfl)) (hw _ (List.mem_of_getElem? (i := 3) rfl)) (by decide) (by decide)) q5a q5c (g := (mkF m 22 #[.val (.ref a1), .val (.ref a2)] [(.ref a1)])) rfl (by rw [hml]; rfl) (Steps.refl _) (argsL := []) (rest := []) (lenOf pd_1_1 rfl) rfl (by show 2 * 0 + _ ≤ _; exact Nat.le_of_eq rfl) (hb hby d1_22) (fun _ _ => ⟨rfl, e4, (by decide : 0 + 0 ≤ _), (by decide : 0 + 0 ≤ _)⟩)
  dsimp only [Pt.U, Pt.locs, Pt.cells, Pt.slots] at X5 l5 y5 z5 st5 hQ5
  subst l5 y5 z5
  obtain ⟨rfl, N5q, e5⟩ := hQ5      -- what it returned, that it wrote nothing old, and the rest of your Q2
  have N5 := Fr.app N0 N5q
  -- pc 33: com/example/indexwright/indexwright/sql/ColumnType.isArray by the contract of the body that the receiver's class selects, rm2
  obtain ⟨cq6, kq6, q6a, q6b, q6c⟩ := isOf hZ e5 E_a2
  obtain ⟨_, _, ⟨T6, L6, k6, n6⟩, -, X6, ⟨Lc6, hQ6, l6, y6, z6⟩, st6⟩ := X5.virtualBack hx (y := (⟨"com/example/indexwright/indexwright/sql/ColumnType", "isArray", "()Z"⟩ : MethodName)) (z := (⟨"com/example/indexwright/indexwright/sql/ColumnType", "isArray", "()Z"⟩ : MethodName)) hown (mvT hZ (hw _ (List.mem_of_getElem? (i := 23) rfl))) (mvT hZ (hw _ (List.mem_of_getElem? (i := 24) rfl))) (notFace_of_selects (args := #[]) (mvT hZ (hw _ (List.mem_of_getElem? (i := 26) rfl)))) (mvT hZ (hw _ (List.mem_of_getElem? (i := 26) rfl))) (mvT hZ (hw _ (List.mem_of_getElem? (i := 25) rfl))) (by decide) (backOf (W := 0) (own_2 l Z a0 hw [] a2 (some (.int r6)) h0 n0 Z0 hP6) hZ (hw _ (List.mem_of_getElem? (i := 27) rfl)) (hw _ (List.mem_of_getElem? (i := 3) rfl)) (by decide) (by decide)) q6a q6c (g := (mkF m 33 #[.val (.ref a1), .val (.ref a2)] [(.ref a2)])) rfl (by rw [hml]; rfl) (Steps.refl _) (argsL := []) (rest := []) (lenOf pd_1_1 rfl) rfl (by show 2 * 0 + _ ≤ _; exact Nat.le_of_eq rfl) (hb hby d1_33) (fun _ _ => ⟨rfl, e5, (by decide : 0 + 0 ≤ _), (by decide : 0 + 0 ≤ _)⟩)
  dsimp only [Pt.U, Pt.locs, Pt.cells, Pt.slots] at X6 l6 y6 z6 st6 hQ6
  subst l6 y6 z6
  obtain ⟨rfl, N6q, e6⟩ := hQ6      -- what it returned, that it wrote nothing old, and the rest of your Q2
  have N6 := Fr.app N5 N6q
  obtain ⟨fs, hr, hrun, hended, hW, hsame⟩ := X6.leave (v := some (.int (0 : Int32))) (fun h => by rw [Bd.returns] at h; cases h)
  refine ⟨_, _, pre0 _ ?_, hrun, hended, _, _, rfl, ?_, ⟨_, rfl⟩, hW, hsame.mono (by decide) (by decide)⟩
  -- 4. STEPS
  · show Steps p.tables e below (s₁.setTop (mkF m 0 #[.val (.ref a1), .val (.ref a2)] [])) _
    refine XS.aloadN X0.here hx rfl (hb hby d1_0) rfl rfl ?_
    show Steps p.tables e below (s₁.setTop (mkF m 1 #[.val (.ref a1), .val (.ref a2)] [(.ref a2)])) _
    refine XS.aloadN X0.here hx rfl (hb hby d1_1) rfl rfl ?_
    show Steps p.tables e below (s₁.setTop (mkF m 2 #[.val (.ref a1), .val (.ref a2)] [(.ref a1), (.ref a2)])) _
    refine Jvm.RoadKit.acmp (g := (mkF m 2 #[.val (.ref a1), .val (.ref a2)] [(.ref a1), (.ref a2)])) X0 hx rfl rfl rfl (pc0 := 2) (pc' := 5) (same := false) rfl (hb hby d1_2) rfl (decide_eq_false fun q => ha2 (Value.ref.inj q)) (by decide) (by decide) ?_
    show Steps p.tables e below (s₁.setTop (mkF m 5 #[.val (.ref a1), .val (.ref a2)] [])) _
    refine XS.aloadN X0.here hx rfl (hb hby d1_5) rfl rfl ?_
    show Steps p.tables e below (s₁.setTop (mkF m 6 #[.val (.ref a1), .val (.ref a2)] [(.ref a1)])) _
    refine st4 _ ?_
    show Steps p.tables e below (T4.setTop (mkF m 9 #[.val (.ref a1), .val (.ref a2)] [(.ref w3), (.ref a1)])) _
    refine Jvm.RoadKit.acmp (g := (mkF m 9 #[.val (.ref a1), .val (.ref a2)] [(.ref w3), (.ref a1)])) X4 hx rfl rfl rfl (pc0 := 9) (pc' := 21) (same := false) rfl (hb hby d1_9) rfl (decide_eq_false fun q => ha9 (Value.ref.inj q)) (by decide) (by decide) ?_
    show Steps p.tables e below (T4.setTop (mkF m 21 #[.val (.ref a1), .val (.ref a2)] [])) _
    refine XS.aloadN X4.here hx rfl (hb hby d1_21) rfl rfl ?_
    show Steps p.tables e below (T4.setTop (mkF m 22 #[.val (.ref a1), .val (.ref a2)] [(.ref a1)])) _
    refine st5.trans ?_
    show Steps p.tables e below (T5.setTop (mkF m 25 #[.val (.ref a1), .val (.ref a2)] [(.int r5)])) _
    refine XS.ifNo X5.here hx rfl (hb hby d1_25) rfl ((if0 _ _).trans (feq hx1).1) ?_
    show Steps p.tables e below (T5.setTop (mkF m 28 #[.val (.ref a1), .val (.ref a2)] [])) _
    refine XS.aloadN X5.here hx rfl (hb hby d1_28) rfl rfl ?_
    show Steps p.tables e below (T5.setTop (mkF m 29 #[.val (.ref a1), .val (.ref a2)] [(.ref a2)])) _
    refine XS.ifnullNo X5.here hx rfl (hb hby d1_29) rfl ?_
    show Steps p.tables e below (T5.setTop (mkF m 32 #[.val (.ref a1), .val (.ref a2)] [])) _
    refine XS.aloadN X5.here hx rfl (hb hby d1_32) rfl rfl ?_
    show Steps p.tables e below (T5.setTop (mkF m 33 #[.val (.ref a1), .val (.ref a2)] [(.ref a2)])) _
    refine st6.trans ?_
    show Steps p.tables e below (T6.setTop (mkF m 36 #[.val (.ref a1), .val (.ref a2)] [(.int r6)])) _
    refine XS.ifYes X6.here hx rfl (pc0 := 36) (pc' := 57) rfl (hb hby d1_36) rfl ((if0 _ _).trans (teq hx2).1) (by decide) (by decide) ?_
    show Steps p.tables e below (T6.setTop (mkF m 57 #[.val (.ref a1), .val (.ref a2)] [])) _
    refine XS.iconst X6.here hx rfl (hb hby d1_57) ?_
    show Steps p.tables e below (T6.setTop (mkF m 58 #[.val (.ref a1), .val (.ref a2)] [(.int (0 : Int32))])) _
    exact retN X6 hx (t := .boolean) Bd.returns (by simp) (hb hby d1_58) hr
  · show Q1_1b_ftfft Z a1 a2 w3 r5 r6 h0 n0 _ T6.heap _
    exact ⟨rfl, N6, e6⟩
def Q1_1b_fftfft (Z : State) (a1 : Addr) (a2 : Addr) (w3 : Addr) (w5 : Addr) (r7 : Int32) (r8 : Int32) (h0 : Heap) (n0 : Nat) (v : Option Value) (h : Heap) (L : List Loc) : Prop := v = some (.int (0 : Int32)) ∧ Fr n0 L ∧ h = h0
set_option maxRecDepth 65536 in
set_option maxHeartbeats 40000000 in
theorem rm1_1b_fftfft (l : Launch) (Z : State) (a0 : Array Value) (hw : ∀ d ∈ tables_1, d.before a0 Z = true) (ws : List Jvm.Cond) (a1 : Addr) (a2 : Addr) (w3 : Addr) (w5 : Addr) (r7 : Int32) (r8 : Int32) (h0 : Heap) (n0 : Nat) (Z0 : n0 ≤ h0.size) (S_DOUBLE : Sta Z h0 "com/example/indexwright/indexwright/sql/ColumnType" "DOUBLE" "Lcom/example/indexwright/indexwright/sql/ColumnType;" (.ref w3)) (S_BIGINT : Sta Z h0 "com/example/indexwright/indexwright/sql/ColumnType" "BIGINT" "Lcom/example/indexwright/indexwright/sql/ColumnType;" (.ref w5)) (E_a1 : Exa Z h0 a1 "com/example/indexwright/indexwright/sql/ColumnType") (E_a2 : Exa Z h0 a2 "com/example/indexwright/indexwright/sql/ColumnType") (ha2 : ¬ (a2 = a1)) (ha9 : a1 = w3) (ha16 : ¬ (a2 = w5)) (hP7 : P2 Z h0 a1 (some (.int r7))) (hP8 : P2 Z h0 a2 (some (.int r8))) (hx1 : ¬ (r7 = (0 : Int32))) (hx2 : r8 = (0 : Int32)) :
    MetFree l (⟨"com/example/indexwright/indexwright/sql/ColumnType", "holds", "(Lcom/example/indexwright/indexwright/sql/ColumnType;)Z"⟩ : MethodName) (head1 (Jvm.Cond.code (⟨"com/example/indexwright/indexwright/sql/ColumnType", "holds", "(Lcom/example/indexwright/indexwright/sql/ColumnType;)Z"⟩ : MethodName) prog_54_method_14_code 2 (some .boolean) :: ws) ({ frames := 2, cells := 0, slots := 0, locals := 25 } : Room)) (fun a U => a = #[(.ref a1), (.ref a2)] ∧ Z.Warmed39 U.vm ∧ U.heap = h0) (fun _ _ _ _ _ => True) (fun _ U o U' => ∃ v L, o = .returned v ∧ Q1_1b_fftfft Z a1 a2 w3 w5 r7 r8 h0 n0 v U'.heap L ∧ FrameEnd U o U' L ({ frames := 2, cells := 0, slots := 0, locals := 25 } : Room).cells ({ frames := 2, cells := 0, slots := 0, locals := 25 } : Room).slots) := by
  refine MetFree.of_bodySF (plainFor_of_name pn_1) hisR ?_
  intro p e s m args below meth c s₁ Bd hml0 hP hK
  obtain ⟨rfl, hZ, hh⟩ := hP
  have hx := Bd.exec
  have hby := Bd.bytes
  have hml : c.maxLocals = 2 := hml0
  have hown : s.vm.findClass "com/example/indexwright/indexwright/sql/ColumnType" = some m.cls := findClass_of_methodNamed Bd.named
  have hnm := (name_of_methodNamed Bd.named Bd.method).1
  have X0 : Stand p l e ({ frames := 2, cells := 0, slots := 0, locals := 25 } : Room) s m #[(.ref a1), (.ref a2)] below meth c s₁ [] 0 0 := Stand.of_body Bd
  have e0 : s₁.heap = h0 := by rw [← hh, Bd.state]; rfl
  have N0 := Fr.nil n0
  have pre0 : ∀ t, Steps p.tables e below (s₁.setTop (mkF m 0 #[.val (.ref a1), .val (.ref a2)] [])) t → Steps p.tables e below (s₁.setTop (entryFrame m #[(.ref a1), (.ref a2)] 2)) t := fun t k => castTop (ef_1 m a1 a2) k
  -- 3. LAWS
  obtain ⟨T4, X4, e4, st4⟩ := getS2 X0 hx hZ hown (host := "") (Or.inl (hw _ (List.mem_of_getElem? (i := 22) rfl))) Via.refl e0 S_DOUBLE (g := (mkF m 6 #[.val (.ref a1), .val (.ref a2)] [(.ref a1)])) rfl (hb hby d1_6)
  obtain ⟨T6, X6, e6, st6⟩ := getS2 X4 hx hZ hown (host := "") (Or.inl (hw _ (List.mem_of_getElem? (i := 30) rfl))) Via.refl e4 S_BIGINT (g := (mkF m 13 #[.val (.ref a1), .val (.ref a2)] [(.ref a2)])) rfl (hb hby d1_13)
  -- pc 22: com/example/indexwright/indexwright/sql/ColumnType.isArray by the contract of the body that the receiver's class selects, rm2
  obtain ⟨cq7, kq7, q7a, q7b, q7c⟩ := isOf hZ e6 E_a1
  obtain ⟨_, _, ⟨T7, L7, k7, n7⟩, -, X7, ⟨Lc7, hQ7, l7, y7, z7⟩, st7⟩ := X6.virtualBack hx (y := (⟨"com/example/indexwright/indexwright/sql/ColumnType", "isArray", "()Z"⟩ : MethodName)) (z := (⟨"com/example/indexwright/indexwright/sql/ColumnType", "isArray", "()Z"⟩ : MethodName)) hown (mvT hZ (hw _ (List.mem_of_getElem? (i := 23) rfl))) (mvT hZ (hw _ (List.mem_of_getElem? (i := 24) rfl))) (notFace_of_selects (args := #[]) (mvT hZ (hw _ (List.mem_of_getElem? (i := 26) rfl)))) (mvT hZ (hw _ (List.mem_of_getElem? (i := 26) rfl))) (mvT hZ (hw _ (List.mem_of_getElem? (i := 25) rfl))) (by decide) (backOf (W := 0) (own_2 l Z a0 hw [] a1 (some (.int r7)) h0 n0 Z0 hP7) hZ (hw _ (List.mem_of_getElem? (i := 27) rfl)) (hw _ (List.mem_of_getElem? (i := 3) rfl)) (by decide) (by decide)) q7a q7c (g := (mkF m 22 #[.val (.ref a1), .val (.ref a2)] [(.ref a1)])) rfl (by rw [hml]; rfl) (Steps.refl _) (argsL := []) (rest := []) (lenOf pd_1_1 rfl) rfl (by show 2 * 0 + _ ≤ _; exact Nat.le_of_eq rfl) (hb hby d1_22) (fun _ _ => ⟨rfl, e6, (by decide : 0 + 0 ≤ _), (by decide : 0 + 0 ≤ _)⟩)
  dsimp only [Pt.U, Pt.locs, Pt.cells, Pt.slots] at X7 l7 y7 z7 st7 hQ7
  subst l7 y7 z7
  obtain ⟨rfl, N7q, e7⟩ := hQ7      -- what it returned, that it wrote nothing old, and the rest of your Q2
  have N7 := Fr.app N0 N7q
  -- pc 33: com/example/indexwright/indexwright/sql/ColumnType.isArray by the contract of the body that the receiver's class selects, rm2
  obtain ⟨cq8, kq8, q8a, q8b, q8c⟩ := isOf hZ e7 E_a2
  obtain ⟨_, _, ⟨T8, L8, k8, n8⟩, -, X8, ⟨Lc8, hQ8, l8, y8, z8⟩, st8⟩ := X7.virtualBack hx (y := (⟨"com/example/indexwright/indexwright/sql/ColumnType", "isArray", "()Z"⟩ : MethodName)) (z := (⟨"com/example/indexwright/indexwright/sql/ColumnType", "isArray", "()Z"⟩ : MethodName)) hown (mvT hZ (hw _ (List.mem_of_getElem? (i := 23) rfl))) (mvT hZ (hw _ (List.mem_of_getElem? (i := 24) rfl))) (notFace_of_selects (args := #[]) (mvT hZ (hw _ (List.mem_of_getElem? (i := 26) rfl)))) (mvT hZ (hw _ (List.mem_of_getElem? (i := 26) rfl))) (mvT hZ (hw _ (List.mem_of_getElem? (i := 25) rfl))) (by decide) (backOf (W := 0) (own_2 l Z a0 hw [] a2 (some (.int r8)) h0 n0 Z0 hP8) hZ (hw _ (List.mem_of_getElem? (i := 27) rfl)) (hw _ (List.mem_of_getElem? (i := 3) rfl)) (by decide) (by decide)) q8a q8c (g := (mkF m 33 #[.val (.ref a1), .val (.ref a2)] [(.ref a2)])) rfl (by rw [hml]; rfl) (Steps.refl _) (argsL := []) (rest := []) (lenOf pd_1_1 rfl) rfl (by show 2 * 0 + _ ≤ _; exact Nat.le_of_eq rfl) (hb hby d1_33) (fun _ _ => ⟨rfl, e7, (by decide : 0 + 0 ≤ _), (by decide : 0 + 0 ≤ _)⟩)
  dsimp only [Pt.U, Pt.locs, Pt.cells, Pt.slots] at X8 l8 y8 z8 st8 hQ8
  subst l8 y8 z8
  obtain ⟨rfl, N8q, e8⟩ := hQ8      -- what it returned, that it wrote nothing old, and the rest of your Q2
  have N8 := Fr.app N7 N8q
  obtain ⟨fs, hr, hrun, hended, hW, hsame⟩ := X8.leave (v := some (.int (0 : Int32))) (fun h => by rw [Bd.returns] at h; cases h)
  refine ⟨_, _, pre0 _ ?_, hrun, hended, _, _, rfl, ?_, ⟨_, rfl⟩, hW, hsame.mono (by decide) (by decide)⟩
  -- 4. STEPS
  · show Steps p.tables e below (s₁.setTop (mkF m 0 #[.val (.ref a1), .val (.ref a2)] [])) _
    refine XS.aloadN X0.here hx rfl (hb hby d1_0) rfl rfl ?_
    show Steps p.tables e below (s₁.setTop (mkF m 1 #[.val (.ref a1), .val (.ref a2)] [(.ref a2)])) _
    refine XS.aloadN X0.here hx rfl (hb hby d1_1) rfl rfl ?_
    show Steps p.tables e below (s₁.setTop (mkF m 2 #[.val (.ref a1), .val (.ref a2)] [(.ref a1), (.ref a2)])) _
    refine Jvm.RoadKit.acmp (g := (mkF m 2 #[.val (.ref a1), .val (.ref a2)] [(.ref a1), (.ref a2)])) X0 hx rfl rfl rfl (pc0 := 2) (pc' := 5) (same := false) rfl (hb hby d1_2) rfl (decide_eq_false fun q => ha2 (Value.ref.inj q)) (by decide) (by decide) ?_
    show Steps p.tables e below (s₁.setTop (mkF m 5 #[.val (.ref a1), .val (.ref a2)] [])) _
    refine XS.aloadN X0.here hx rfl (hb hby d1_5) rfl rfl ?_
    show Steps p.tables e below (s₁.setTop (mkF m 6 #[.val (.ref a1), .val (.ref a2)] [(.ref a1)])) _
    refine st4 _ ?_
    show Steps p.tables e below (T4.setTop (mkF m 9 #[.val (.ref a1), .val (.ref a2)] [(.ref w3), (.ref a1)])) _
    refine Jvm.RoadKit.acmp (g := (mkF m 9 #[.val (.ref a1), .val (.ref a2)] [(.ref w3), (.ref a1)])) X4 hx rfl rfl rfl (pc0 := 9) (pc' := 12) (same := true) rfl (hb hby d1_9) rfl (decide_eq_true (congrArg Value.ref ha9)) (by decide) (by decide) ?_
    show Steps p.tables e below (T4.setTop (mkF m 12 #[.val (.ref a1), .val (.ref a2)] [])) _
    refine XS.aloadN X4.here hx rfl (hb hby d1_12) rfl rfl ?_
    show Steps p.tables e below (T4.setTop (mkF m 13 #[.val (.ref a1), .val (.ref a2)] [(.ref a2)])) _
    refine st6 _ ?_
    show Steps p.tables e below (T6.setTop (mkF m 16 #[.val (.ref a1), .val (.ref a2)] [(.ref w5), (.ref a2)])) _
    refine Jvm.RoadKit.acmp (g := (mkF m 16 #[.val (.ref a1), .val (.ref a2)] [(.ref w5), (.ref a2)])) X6 hx rfl rfl rfl (pc0 := 16) (pc' := 21) (same := false) rfl (hb hby d1_16) rfl (decide_eq_false fun q => ha16 (Value.ref.inj q)) (by decide) (by decide) ?_
    show Steps p.tables e below (T6.setTop (mkF m 21 #[.val (.ref a1), .val (.ref a2)] [])) _
    refine XS.aloadN X6.here hx rfl (hb hby d1_21) rfl rfl ?_
    show Steps p.tables e below (T6.setTop (mkF m 22 #[.val (.ref a1), .val (.ref a2)] [(.ref a1)])) _
    refine st7.trans ?_
    show Steps p.tables e below (T7.setTop (mkF m 25 #[.val (.ref a1), .val (.ref a2)] [(.int r7)])) _
    refine XS.ifNo X7.here hx rfl (hb hby d1_25) rfl ((if0 _ _).trans (feq hx1).1) ?_
    show Steps p.tables e below (T7.setTop (mkF m 28 #[.val (.ref a1), .val (.ref a2)] [])) _
    refine XS.aloadN X7.here hx rfl (hb hby d1_28) rfl rfl ?_
    show Steps p.tables e below (T7.setTop (mkF m 29 #[.val (.ref a1), .val (.ref a2)] [(.ref a2)])) _
    refine XS.ifnullNo X7.here hx rfl (hb hby d1_29) rfl ?_
    show Steps p.tables e below (T7.setTop (mkF m 32 #[.val (.ref a1), .val (.ref a2)] [])) _
    refine XS.aloadN X7.here hx rfl (hb hby d1_32) rfl rfl ?_
    show Steps p.tables e below (T7.setTop (mkF m 33 #[.val (.ref a1), .val (.ref a2)] [(.ref a2)])) _
    refine st8.trans ?_
    show Steps p.tables e below (T8.setTop (mkF m 36 #[.val (.ref a1), .val (.ref a2)] [(.int r8)])) _
    refine XS.ifYes X8.here hx rfl (pc0 := 36) (pc' := 57) rfl (hb hby d1_36) rfl ((if0 _ _).trans (teq hx2).1) (by decide) (by decide) ?_
    show Steps p.tables e below (T8.setTop (mkF m 57 #[.val (.ref a1), .val (.ref a2)] [])) _
    refine XS.iconst X8.here hx rfl (hb hby d1_57) ?_
    show Steps p.tables e below (T8.setTop (mkF m 58 #[.val (.ref a1), .val (.ref a2)] [(.int (0 : Int32))])) _
    exact retN X8 hx (t := .boolean) Bd.returns (by simp) (hb hby d1_58) hr
  · show Q1_1b_fftfft Z a1 a2 w3 w5 r7 r8 h0 n0 _ T8.heap _
    exact ⟨rfl, N8, e8⟩
theorem d1_39 : decode prog_54_method_14_code 39 = .ok (.aload_n 0, 1) := by decide +kernel
theorem d1_40 : decode prog_54_method_14_code 40 = .ok (.getfield 41, 3) := by decide +kernel
theorem d1_43 : decode prog_54_method_14_code 43 = .ok (.aload_n 1, 1) := by decide +kernel
theorem d1_44 : decode prog_54_method_14_code 44 = .ok (.getfield 41, 3) := by decide +kernel
theorem d1_47 : decode prog_54_method_14_code 47 = .ok (.invokevirtual 133, 3) := by decide +kernel
theorem d1_50 : decode prog_54_method_14_code 50 = .ok (.ifCond .eq 7, 3) := by decide +kernel
theorem d1_53 : decode prog_54_method_14_code 53 = .ok (.iconst 1, 1) := by decide +kernel
theorem d1_54 : decode prog_54_method_14_code 54 = .ok (.goto 4, 3) := by decide +kernel
theorem pd_1_0 : parseMethodDescriptor "(Lcom/example/indexwright/indexwright/sql/ColumnType;)Z" = some ⟨[(.object "com/example/indexwright/indexwright/sql/ColumnType")], some .boolean⟩ := by decide +kernel
def Q1_1b_ftffff (Z : State) (a1 : Addr) (a2 : Addr) (w3 : Addr) (w7 : Addr) (w9 : Addr) (r5 : Int32) (r6 : Int32) (r11 : Int32) (h0 : Heap) (n0 : Nat) (v : Option Value) (h : Heap) (L : List Loc) : Prop := v = some (.int (1 : Int32)) ∧ Fr n0 L ∧ h = h0
set_option maxRecDepth 65536 in
set_option maxHeartbeats 40000000 in
theorem rm1_1b_ftffff (l : Launch) (Z : State) (a0 : Array Value) (hw : ∀ d ∈ tables_1, d.before a0 Z = true) (ws : List Jvm.Cond) (a1 : Addr) (a2 : Addr) (w3 : Addr) (w7 : Addr) (w9 : Addr) (r5 : Int32) (r6 : Int32) (r11 : Int32) (h0 : Heap) (n0 : Nat) (Z0 : n0 ≤ h0.size) (S_DOUBLE : Sta Z h0 "com/example/indexwright/indexwright/sql/ColumnType" "DOUBLE" "Lcom/example/indexwright/indexwright/sql/ColumnType;" (.ref w3)) (E_a1 : Exa Z h0 a1 "com/example/indexwright/indexwright/sql/ColumnType") (E_a2 : Exa Z h0 a2 "com/example/indexwright/indexwright/sql/ColumnType") (F_element_a1 : Fld Z h0 a1 "com/example/indexwright/indexwright/sql/ColumnType" "element" "Lcom/example/indexwright/indexwright/sql/ColumnType;" (.ref w7)) (F_element_a2 : Fld Z h0 a2 "com/example/indexwright/indexwright/sql/ColumnType" "element" "Lcom/example/indexwright/indexwright/sql/ColumnType;" (.ref w9)) (E_w7 : Exa Z h0 w7 "com/example/indexwright/indexwright/sql/ColumnType") (ha2 : ¬ (a2 = a1)) (ha9 : ¬ (a1 = w3)) (hP5 : P2 Z h0 a1 (some (.int r5))) (hP6 : P2 Z h0 a2 (some (.int r6))) (hP11 : P1a Z h0 w7 w9 (some (.int r11))) (hx1 : ¬ (r5 = (0 : Int32))) (hx2 : ¬ (r6 = (0 : Int32))) (hx3 : ¬ (r11 = (0 : Int32))) :
    MetFree l (⟨"com/example/indexwright/indexwright/sql/ColumnType", "holds", "(Lcom/example/indexwright/indexwright/sql/ColumnType;)Z"⟩ : MethodName) (head1 (Jvm.Cond.code (⟨"com/example/indexwright/indexwright/sql/ColumnType", "holds", "(Lcom/example/indexwright/indexwright/sql/ColumnType;)Z"⟩ : MethodName) prog_54_method_14_code 2 (some .boolean) :: ws) ({ frames := 2, cells := 0, slots := 0, locals := 25 } : Room)) (fun a U => a = #[(.ref a1), (.ref a2)] ∧ Z.Warmed39 U.vm ∧ U.heap = h0) (fun _ _ _ _ _ => True) (fun _ U o U' => ∃ v L, o = .returned v ∧ Q1_1b_ftffff Z a1 a2 w3 w7 w9 r5 r6 r11 h0 n0 v U'.heap L ∧ FrameEnd U o U' L ({ frames := 2, cells := 0, slots := 0, locals := 25 } : Room).cells ({ frames := 2, cells := 0, slots := 0, locals := 25 } : Room).slots) := by
  refine MetFree.of_bodySF (plainFor_of_name pn_1) hisR ?_
  intro p e s m args below meth c s₁ Bd hml0 hP hK
  obtain ⟨rfl, hZ, hh⟩ := hP
  have hx := Bd.exec
  have hby := Bd.bytes
  have hml : c.maxLocals = 2 := hml0
  have hown : s.vm.findClass "com/example/indexwright/indexwright/sql/ColumnType" = some m.cls := findClass_of_methodNamed Bd.named
  have hnm := (name_of_methodNamed Bd.named Bd.method).1
  have X0 : Stand p l e ({ frames := 2, cells := 0, slots := 0, locals := 25 } : Room) s m #[(.ref a1), (.ref a2)] below meth c s₁ [] 0 0 := Stand.of_body Bd
  have e0 : s₁.heap = h0 := by rw [← hh, Bd.state]; rfl
  have N0 := Fr.nil n0
  have pre0 : ∀ t, Steps p.tables e below (s₁.setTop (mkF m 0 #[.val (.ref a1), .val (.ref a2)] [])) t → Steps p.tables e below (s₁.setTop (entryFrame m #[(.ref a1), (.ref a2)] 2)) t := fun t k => castTop (ef_1 m a1 a2) k
  -- 3. LAWS
  obtain ⟨T4, X4, e4, st4⟩ := getS2 X0 hx hZ hown (host := "") (Or.inl (hw _ (List.mem_of_getElem? (i := 22) rfl))) Via.refl e0 S_DOUBLE (g := (mkF m 6 #[.val (.ref a1), .val (.ref a2)] [(.ref a1)])) rfl (hb hby d1_6)
  -- pc 22: com/example/indexwright/indexwright/sql/ColumnType.isArray by the contract of the body that the receiver's class selects, rm2
  obtain ⟨cq5, kq5, q5a, q5b, q5c⟩ := isOf hZ e4 E_a1
  obtain ⟨_, _, ⟨T5, L5, k5, n5⟩, -, X5, ⟨Lc5, hQ5, l5, y5, z5⟩, st5⟩ := X4.virtualBack hx (y := (⟨"com/example/indexwright/indexwright/sql/ColumnType", "isArray", "()Z"⟩ : MethodName)) (z := (⟨"com/example/indexwright/indexwright/sql/ColumnType", "isArray", "()Z"⟩ : MethodName)) hown (mvT hZ (hw _ (List.mem_of_getElem? (i := 23) rfl))) (mvT hZ (hw _ (List.mem_of_getElem? (i := 24) rfl))) (notFace_of_selects (args := #[]) (mvT hZ (hw _ (List.mem_of_getElem? (i := 26) rfl)))) (mvT hZ (hw _ (List.mem_of_getElem? (i := 26) rfl))) (mvT hZ (hw _ (List.mem_of_getElem? (i := 25) rfl))) (by decide) (backOf (W := 0) (own_2 l Z a0 hw [] a1 (some (.int r5)) h0 n0 Z0 hP5) hZ (hw _ (List.mem_of_getElem? (i := 27) rfl)) (hw _ (List.mem_of_getElem? (i := 3) rfl)) (by decide) (by decide)) q5a q5c (g := (mkF m 22 #[.val (.ref a1), .val (.ref a2)] [(.ref a1)])) rfl (by rw [hml]; rfl) (Steps.refl _) (argsL := []) (rest := []) (lenOf pd_1_1 rfl) rfl (by show 2 * 0 + _ ≤ _; exact Nat.le_of_eq rfl) (hb hby d1_22) (fun _ _ => ⟨rfl, e4, (by decide : 0 + 0 ≤ _), (by decide : 0 + 0 ≤ _)⟩)
  dsimp only [Pt.U, Pt.locs, Pt.cells, Pt.slots] at X5 l5 y5 z5 st5 hQ5
  subst l5 y5 z5
  obtain ⟨rfl, N5q, e5⟩ := hQ5      -- what it returned, that it wrote nothing old, and the rest of your Q2
  have N5 := Fr.app N0 N5q
  -- pc 33: com/example/indexwright/indexwright/sql/ColumnType.isArray by the contract of the body that the receiver's class selects, rm2
  obtain ⟨cq6, kq6, q6a, q6b, q6c⟩ := isOf hZ e5 E_a2
  obtain ⟨_, _, ⟨T6, L6, k6, n6⟩, -, X6, ⟨Lc6, hQ6, l6, y6, z6⟩, st6⟩ := X5.virtualBack hx (y := (⟨"com/example/indexwright/indexwright/sql/ColumnType", "isArray", "()Z"⟩ : MethodName)) (z := (⟨"com/example/indexwright/indexwright/sql/ColumnType", "isArray", "()Z"⟩ : MethodName)) hown (mvT hZ (hw _ (List.mem_of_getElem? (i := 23) rfl))) (mvT hZ (hw _ (List.mem_of_getElem? (i := 24) rfl))) (notFace_of_selects (args := #[]) (mvT hZ (hw _ (List.mem_of_getElem? (i := 26) rfl)))) (mvT hZ (hw _ (List.mem_of_getElem? (i := 26) rfl))) (mvT hZ (hw _ (List.mem_of_getElem? (i := 25) rfl))) (by decide) (backOf (W := 0) (own_2 l Z a0 hw [] a2 (some (.int r6)) h0 n0 Z0 hP6) hZ (hw _ (List.mem_of_getElem? (i := 27) rfl)) (hw _ (List.mem_of_getElem? (i := 3) rfl)) (by decide) (by decide)) q6a q6c (g := (mkF m 33 #[.val (.ref a1), .val (.ref a2)] [(.ref a2)])) rfl (by rw [hml]; rfl) (Steps.refl _) (argsL := []) (rest := []) (lenOf pd_1_1 rfl) rfl (by show 2 * 0 + _ ≤ _; exact Nat.le_of_eq rfl) (hb hby d1_33) (fun _ _ => ⟨rfl, e5, (by decide : 0 + 0 ≤ _), (by decide : 0 + 0 ≤ _)⟩)
  dsimp only [Pt.U, Pt.locs, Pt.cells, Pt.slots] at X6 l6 y6 z6 st6 hQ6
  subst l6 y6 z6
  obtain ⟨rfl, N6q, e6⟩ := hQ6      -- what it returned, that it wrote nothing old, and the rest of your Q2
  have N6 := Fr.app N5 N6q
  obtain ⟨T8, X8, e8, st8⟩ := getF X6 hx hZ hown (host := "") (Or.inl (hw _ (List.mem_of_getElem? (i := 28) rfl))) Via.refl e6 F_element_a1 (g := (mkF m 40 #[.val (.ref a1), .val (.ref a2)] [(.ref a1)])) rfl rfl (hb hby d1_40)
  obtain ⟨T10, X10, e10, st10⟩ := getF X8 hx hZ hown (host := "") (Or.inl (hw _ (List.mem_of_getElem? (i := 28) rfl))) Via.refl e8 F_element_a2 (g := (mkF m 44 #[.val (.ref a1), .val (.ref a2)] [(.ref a2), (.ref w7)])) rfl rfl (hb hby d1_44)
  -- pc 47: com/example/indexwright/indexwright/sql/ColumnType.holds by the contract of the body that the receiver's class selects, rm1
  obtain ⟨cq11, kq11, q11a, q11b, q11c⟩ := isOf hZ e10 E_w7
  obtain ⟨_, _, ⟨T11, L11, k11, n11⟩, -, X11, ⟨Lc11, hQ11, l11, y11, z11⟩, st11⟩ := X10.virtualBack hx (y := (⟨"com/example/indexwright/indexwright/sql/ColumnType", "holds", "(Lcom/example/indexwright/indexwright/sql/ColumnType;)Z"⟩ : MethodName)) (z := (⟨"com/example/indexwright/indexwright/sql/ColumnType", "holds", "(Lcom/example/indexwright/indexwright/sql/ColumnType;)Z"⟩ : MethodName)) hown (mvT hZ (hw _ (List.mem_of_getElem? (i := 31) rfl))) (mvT hZ (hw _ (List.mem_of_getElem? (i := 18) rfl))) (notFace_of_selects (args := #[]) (mvT hZ (hw _ (List.mem_of_getElem? (i := 20) rfl)))) (mvT hZ (hw _ (List.mem_of_getElem? (i := 20) rfl))) (mvT hZ (hw _ (List.mem_of_getElem? (i := 19) rfl))) (by decide) (backOf (W := 0) (own_1a l Z a0 hw [] w7 w9 (some (.int r11)) h0 n0 Z0 hP11) hZ (hw _ (List.mem_of_getElem? (i := 21) rfl)) (hw _ (List.mem_of_getElem? (i := 3) rfl)) (by decide) (by decide)) q11a q11c (g := (mkF m 47 #[.val (.ref a1), .val (.ref a2)] [(.ref w9), (.ref w7)])) rfl (by rw [hml]; rfl) (Steps.refl _) (argsL := [(.ref w9)]) (rest := []) (lenOf pd_1_0 rfl) rfl (by show 2 * 0 + _ ≤ _; exact Nat.le_of_eq rfl) (hb hby d1_47) (fun _ _ => ⟨rfl, e10, (by decide : 0 + 0 ≤ _), (by decide : 0 + 0 ≤ _)⟩)
  dsimp only [Pt.U, Pt.locs, Pt.cells, Pt.slots] at X11 l11 y11 z11 st11 hQ11
  subst l11 y11 z11
  obtain ⟨rfl, N11q, e11⟩ := hQ11      -- what it returned, that it wrote nothing old, and the rest of your Q1_1b_ftffff
  have N11 := Fr.app N6 N11q
  obtain ⟨fs, hr, hrun, hended, hW, hsame⟩ := X11.leave (v := some (.int (1 : Int32))) (fun h => by rw [Bd.returns] at h; cases h)
  refine ⟨_, _, pre0 _ ?_, hrun, hended, _, _, rfl, ?_, ⟨_, rfl⟩, hW, hsame.mono (by decide) (by decide)⟩
  -- 4. STEPS
  · show Steps p.tables e below (s₁.setTop (mkF m 0 #[.val (.ref a1), .val (.ref a2)] [])) _
    refine XS.aloadN X0.here hx rfl (hb hby d1_0) rfl rfl ?_
    show Steps p.tables e below (s₁.setTop (mkF m 1 #[.val (.ref a1), .val (.ref a2)] [(.ref a2)])) _
    refine XS.aloadN X0.here hx rfl (hb hby d1_1) rfl rfl ?_
    show Steps p.tables e below (s₁.setTop (mkF m 2 #[.val (.ref a1), .val (.ref a2)] [(.ref a1), (.ref a2)])) _
    refine Jvm.RoadKit.acmp (g := (mkF m 2 #[.val (.ref a1), .val (.ref a2)] [(.ref a1), (.ref a2)])) X0 hx rfl rfl rfl (pc0 := 2) (pc' := 5) (same := false) rfl (hb hby d1_2) rfl (decide_eq_false fun q => ha2 (Value.ref.inj q)) (by decide) (by decide) ?_
    show Steps p.tables e below (s₁.setTop (mkF m 5 #[.val (.ref a1), .val (.ref a2)] [])) _
    refine XS.aloadN X0.here hx rfl (hb hby d1_5) rfl rfl ?_
    show Steps p.tables e below (s₁.setTop (mkF m 6 #[.val (.ref a1), .val (.ref a2)] [(.ref a1)])) _
    refine st4 _ ?_
    show Steps p.tables e below (T4.setTop (mkF m 9 #[.val (.ref a1), .val (.ref a2)] [(.ref w3), (.ref a1)])) _
    refine Jvm.RoadKit.acmp (g := (mkF m 9 #[.val (.ref a1), .val (.ref a2)] [(.ref w3), (.ref a1)])) X4 hx rfl rfl rfl (pc0 := 9) (pc' := 21) (same := false) rfl (hb hby d1_9) rfl (decide_eq_false fun q => ha9 (Value.ref.inj q)) (by decide) (by decide) ?_
    show Steps p.tables e below (T4.setTop (mkF m 21 #[.val (.ref a1), .val (.ref a2)] [])) _
    refine XS.aloadN X4.here hx rfl (hb hby d1_21) rfl rfl ?_
    show Steps p.tables e below (T4.setTop (mkF m 22 #[.val (.ref a1), .val (.ref a2)] [(.ref a1)])) _
    refine st5.trans ?_
    show Steps p.tables e below (T5.setTop (mkF m 25 #[.val (.ref a1), .val (.ref a2)] [(.int r5)])) _
    refine XS.ifNo X5.here hx rfl (hb hby d1_25) rfl ((if0 _ _).trans (feq hx1).1) ?_
    show Steps p.tables e below (T5.setTop (mkF m 28 #[.val (.ref a1), .val (.ref a2)] [])) _
    refine XS.aloadN X5.here hx rfl (hb hby d1_28) rfl rfl ?_
    show Steps p.tables e below (T5.setTop (mkF m 29 #[.val (.ref a1), .val (.ref a2)] [(.ref a2)])) _
    refine XS.ifnullNo X5.here hx rfl (hb hby d1_29) rfl ?_
    show Steps p.tables e below (T5.setTop (mkF m 32 #[.val (.ref a1), .val (.ref a2)] [])) _
    refine XS.aloadN X5.here hx rfl (hb hby d1_32) rfl rfl ?_
    show Steps p.tables e below (T5.setTop (mkF m 33 #[.val (.ref a1), .val (.ref a2)] [(.ref a2)])) _
    refine st6.trans ?_
    show Steps p.tables e below (T6.setTop (mkF m 36 #[.val (.ref a1), .val (.ref a2)] [(.int r6)])) _
    refine XS.ifNo X6.here hx rfl (hb hby d1_36) rfl ((if0 _ _).trans (feq hx2).1) ?_
    show Steps p.tables e below (T6.setTop (mkF m 39 #[.val (.ref a1), .val (.ref a2)] [])) _
    refine XS.aloadN X6.here hx rfl (hb hby d1_39) rfl rfl ?_
    show Steps p.tables e below (T6.setTop (mkF m 40 #[.val (.ref a1), .val (.ref a2)] [(.ref a1)])) _
    refine st8 _ ?_
    show Steps p.tables e below (T8.setTop (mkF m 43 #[.val (.ref a1), .val (.ref a2)] [(.ref w7)])) _
    refine XS.aloadN X8.here hx rfl (hb hby d1_43) rfl rfl ?_
    show Steps p.tables e below (T8.setTop (mkF m 44 #[.val (.ref a1), .val (.ref a2)] [(.ref a2), (.ref w7)])) _
    refine st10 _ ?_
    show Steps p.tables e below (T10.setTop (mkF m 47 #[.val (.ref a1), .val (.ref a2)] [(.ref w9), (.ref w7)])) _
    refine st11.trans ?_
    show Steps p.tables e below (T11.setTop (mkF m 50 #[.val (.ref a1), .val (.ref a2)] [(.int r11)])) _
    refine XS.ifNo X11.here hx rfl (hb hby d1_50) rfl ((if0 _ _).trans (feq hx3).1) ?_
    show Steps p.tables e below (T11.setTop (mkF m 53 #[.val (.ref a1), .val (.ref a2)] [])) _
    refine XS.iconst X11.here hx rfl (hb hby d1_53) ?_
    show Steps p.tables e below (T11.setTop (mkF m 54 #[.val (.ref a1), .val (.ref a2)] [(.int (1 : Int32))])) _
    refine XS.goto X11.here hx rfl (pc0 := 54) (pc' := 58) rfl (hb hby d1_54) (by decide) (by decide) ?_
    show Steps p.tables e below (T11.setTop (mkF m 58 #[.val (.ref a1), .val (.ref a2)] [(.int (1 : Int32))])) _
    exact retN X11 hx (t := .boolean) Bd.returns (by simp) (hb hby d1_58) hr
  · show Q1_1b_ftffff Z a1 a2 w3 w7 w9 r5 r6 r11 h0 n0 _ T11.heap _
    exact ⟨rfl, N11, e11⟩
def Q1_1b_ftffft (Z : State) (a1 : Addr) (a2 : Addr) (w3 : Addr) (w7 : Addr) (w9 : Addr) (r5 : Int32) (r6 : Int32) (r11 : Int32) (h0 : Heap) (n0 : Nat) (v : Option Value) (h : Heap) (L : List Loc) : Prop := v = some (.int (0 : Int32)) ∧ Fr n0 L ∧ h = h0
set_option maxRecDepth 65536 in
set_option maxHeartbeats 40000000 in
theorem rm1_1b_ftffft (l : Launch) (Z : State) (a0 : Array Value) (hw : ∀ d ∈ tables_1, d.before a0 Z = true) (ws : List Jvm.Cond) (a1 : Addr) (a2 : Addr) (w3 : Addr) (w7 : Addr) (w9 : Addr) (r5 : Int32) (r6 : Int32) (r11 : Int32) (h0 : Heap) (n0 : Nat) (Z0 : n0 ≤ h0.size) (S_DOUBLE : Sta Z h0 "com/example/indexwright/indexwright/sql/ColumnType" "DOUBLE" "Lcom/example/indexwright/indexwright/sql/ColumnType;" (.ref w3)) (E_a1 : Exa Z h0 a1 "com/example/indexwright/indexwright/sql/ColumnType") (E_a2 : Exa Z h0 a2 "com/example/indexwright/indexwright/sql/ColumnType") (F_element_a1 : Fld Z h0 a1 "com/example/indexwright/indexwright/sql/ColumnType" "element" "Lcom/example/indexwright/indexwright/sql/ColumnType;" (.ref w7)) (F_element_a2 : Fld Z h0 a2 "com/example/indexwright/indexwright/sql/ColumnType" "element" "Lcom/example/indexwright/indexwright/sql/ColumnType;" (.ref w9)) (E_w7 : Exa Z h0 w7 "com/example/indexwright/indexwright/sql/ColumnType") (ha2 : ¬ (a2 = a1)) (ha9 : ¬ (a1 = w3)) (hP5 : P2 Z h0 a1 (some (.int r5))) (hP6 : P2 Z h0 a2 (some (.int r6))) (hP11 : P1a Z h0 w7 w9 (some (.int r11))) (hx1 : ¬ (r5 = (0 : Int32))) (hx2 : ¬ (r6 = (0 : Int32))) (hx3 : r11 = (0 : Int32)) :
    MetFree l (⟨"com/example/indexwright/indexwright/sql/ColumnType", "holds", "(Lcom/example/indexwright/indexwright/sql/ColumnType;)Z"⟩ : MethodName) (head1 (Jvm.Cond.code (⟨"com/example/indexwright/indexwright/sql/ColumnType", "holds", "(Lcom/example/indexwright/indexwright/sql/ColumnType;)Z"⟩ : MethodName) prog_54_method_14_code 2 (some .boolean) :: ws) ({ frames := 2, cells := 0, slots := 0, locals := 25 } : Room)) (fun a U => a = #[(.ref a1), (.ref a2)] ∧ Z.Warmed39 U.vm ∧ U.heap = h0) (fun _ _ _ _ _ => True) (fun _ U o U' => ∃ v L, o = .returned v ∧ Q1_1b_ftffft Z a1 a2 w3 w7 w9 r5 r6 r11 h0 n0 v U'.heap L ∧ FrameEnd U o U' L ({ frames := 2, cells := 0, slots := 0, locals := 25 } : Room).cells ({ frames := 2, cells := 0, slots := 0, locals := 25 } : Room).slots) := by
  refine MetFree.of_bodySF (plainFor_of_name pn_1) hisR ?_
  intro p e s m args below meth c s₁ Bd hml0 hP hK
  obtain ⟨rfl, hZ, hh⟩ := hP
  have hx := Bd.exec
  have hby := Bd.bytes
  have hml : c.maxLocals = 2 := hml0
  have hown : s.vm.findClass "com/example/indexwright/indexwright/sql/ColumnType" = some m.cls := findClass_of_methodNamed Bd.named
  have hnm := (name_of_methodNamed Bd.named Bd.method).1
  have X0 : Stand p l e ({ frames := 2, cells := 0, slots := 0, locals := 25 } : Room) s m #[(.ref a1), (.ref a2)] below meth c s₁ [] 0 0 := Stand.of_body Bd
  have e0 : s₁.heap = h0 := by rw [← hh, Bd.state]; rfl
  have N0 := Fr.nil n0
  have pre0 : ∀ t, Steps p.tables e below (s₁.setTop (mkF m 0 #[.val (.ref a1), .val (.ref a2)] [])) t → Steps p.tables e below (s₁.setTop (entryFrame m #[(.ref a1), (.ref a2)] 2)) t := fun t k => castTop (ef_1 m a1 a2) k
  -- 3. LAWS
  obtain ⟨T4, X4, e4, st4⟩ := getS2 X0 hx hZ hown (host := "") (Or.inl (hw _ (List.mem_of_getElem? (i := 22) rfl))) Via.refl e0 S_DOUBLE (g := (mkF m 6 #[.val (.ref a1), .val (.ref a2)] [(.ref a1)])) rfl (hb hby d1_6)
  -- pc 22: com/example/indexwright/indexwright/sql/ColumnType.isArray by the contract of the body that the receiver's class selects, rm2
  obtain ⟨cq5, kq5, q5a, q5b, q5c⟩ := isOf hZ e4 E_a1
  obtain ⟨_, _, ⟨T5, L5, k5, n5⟩, -, X5, ⟨Lc5, hQ5, l5, y5, z5⟩, st5⟩ := X4.virtualBack hx (y := (⟨"com/example/indexwright/indexwright/sql/ColumnType", "isArray", "()Z"⟩ : MethodName)) (z := (⟨"com/example/indexwright/indexwright/sql/ColumnType", "isArray", "()Z"⟩ : MethodName)) hown (mvT hZ (hw _ (List.mem_of_getElem? (i := 23) rfl))) (mvT hZ (hw _ (List.mem_of_getElem? (i := 24) rfl))) (notFace_of_selects (args := #[]) (mvT hZ (hw _ (List.mem_of_getElem? (i := 26) rfl)))) (mvT hZ (hw _ (List.mem_of_getElem? (i := 26) rfl))) (mvT hZ (hw _ (List.mem_of_getElem? (i := 25) rfl))) (by decide) (backOf (W := 0) (own_2 l Z a0 hw [] a1 (some (.int r5)) h0 n0 Z0 hP5) hZ (hw _ (List.mem_of_getElem? (i := 27) rfl)) (hw _ (List.mem_of_getElem? (i := 3) rfl)) (by decide) (by decide)) q5a q5c (g := (mkF m 22 #[.val (.ref a1), .val (.ref a2)] [(.ref a1)])) rfl (by rw [hml]; rfl) (Steps.refl _) (argsL := []) (rest := []) (lenOf pd_1_1 rfl) rfl (by show 2 * 0 + _ ≤ _; exact Nat.le_of_eq rfl) (hb hby d1_22) (fun _ _ => ⟨rfl, e4, (by decide : 0 + 0 ≤ _), (by decide : 0 + 0 ≤ _)⟩)
  dsimp only [Pt.U, Pt.locs, Pt.cells, Pt.slots] at X5 l5 y5 z5 st5 hQ5
  subst l5 y5 z5
  obtain ⟨rfl, N5q, e5⟩ := hQ5      -- what it returned, that it wrote nothing old, and the rest of your Q2
  have N5 := Fr.app N0 N5q
  -- pc 33: com/example/indexwright/indexwright/sql/ColumnType.isArray by the contract of the body that the receiver's class selects, rm2
  obtain ⟨cq6, kq6, q6a, q6b, q6c⟩ := isOf hZ e5 E_a2
  obtain ⟨_, _, ⟨T6, L6, k6, n6⟩, -, X6, ⟨Lc6, hQ6, l6, y6, z6⟩, st6⟩ := X5.virtualBack hx (y := (⟨"com/example/indexwright/indexwright/sql/ColumnType", "isArray", "()Z"⟩ : MethodName)) (z := (⟨"com/example/indexwright/indexwright/sql/ColumnType", "isArray", "()Z"⟩ : MethodName)) hown (mvT hZ (hw _ (List.mem_of_getElem? (i := 23) rfl))) (mvT hZ (hw _ (List.mem_of_getElem? (i := 24) rfl))) (notFace_of_selects (args := #[]) (mvT hZ (hw _ (List.mem_of_getElem? (i := 26) rfl)))) (mvT hZ (hw _ (List.mem_of_getElem? (i := 26) rfl))) (mvT hZ (hw _ (List.mem_of_getElem? (i := 25) rfl))) (by decide) (backOf (W := 0) (own_2 l Z a0 hw [] a2 (some (.int r6)) h0 n0 Z0 hP6) hZ (hw _ (List.mem_of_getElem? (i := 27) rfl)) (hw _ (List.mem_of_getElem? (i := 3) rfl)) (by decide) (by decide)) q6a q6c (g := (mkF m 33 #[.val (.ref a1), .val (.ref a2)] [(.ref a2)])) rfl (by rw [hml]; rfl) (Steps.refl _) (argsL := []) (rest := []) (lenOf pd_1_1 rfl) rfl (by show 2 * 0 + _ ≤ _; exact Nat.le_of_eq rfl) (hb hby d1_33) (fun _ _ => ⟨rfl, e5, (by decide : 0 + 0 ≤ _), (by decide : 0 + 0 ≤ _)⟩)
  dsimp only [Pt.U, Pt.locs, Pt.cells, Pt.slots] at X6 l6 y6 z6 st6 hQ6
  subst l6 y6 z6
  obtain ⟨rfl, N6q, e6⟩ := hQ6      -- what it returned, that it wrote nothing old, and the rest of your Q2
  have N6 := Fr.app N5 N6q
  obtain ⟨T8, X8, e8, st8⟩ := getF X6 hx hZ hown (host := "") (Or.inl (hw _ (List.mem_of_getElem? (i := 28) rfl))) Via.refl e6 F_element_a1 (g := (mkF m 40 #[.val (.ref a1), .val (.ref a2)] [(.ref a1)])) rfl rfl (hb hby d1_40)
  obtain ⟨T10, X10, e10, st10⟩ := getF X8 hx hZ hown (host := "") (Or.inl (hw _ (List.mem_of_getElem? (i := 28) rfl))) Via.refl e8 F_element_a2 (g := (mkF m 44 #[.val (.ref a1), .val (.ref a2)] [(.ref a2), (.ref w7)])) rfl rfl (hb hby d1_44)
  -- pc 47: com/example/indexwright/indexwright/sql/ColumnType.holds by the contract of the body that the receiver's class selects, rm1
  obtain ⟨cq11, kq11, q11a, q11b, q11c⟩ := isOf hZ e10 E_w7
  obtain ⟨_, _, ⟨T11, L11, k11, n11⟩, -, X11, ⟨Lc11, hQ11, l11, y11, z11⟩, st11⟩ := X10.virtualBack hx (y := (⟨"com/example/indexwright/indexwright/sql/ColumnType", "holds", "(Lcom/example/indexwright/indexwright/sql/ColumnType;)Z"⟩ : MethodName)) (z := (⟨"com/example/indexwright/indexwright/sql/ColumnType", "holds", "(Lcom/example/indexwright/indexwright/sql/ColumnType;)Z"⟩ : MethodName)) hown (mvT hZ (hw _ (List.mem_of_getElem? (i := 31) rfl))) (mvT hZ (hw _ (List.mem_of_getElem? (i := 18) rfl))) (notFace_of_selects (args := #[]) (mvT hZ (hw _ (List.mem_of_getElem? (i := 20) rfl)))) (mvT hZ (hw _ (List.mem_of_getElem? (i := 20) rfl))) (mvT hZ (hw _ (List.mem_of_getElem? (i := 19) rfl))) (by decide) (backOf (W := 0) (own_1a l Z a0 hw [] w7 w9 (some (.int r11)) h0 n0 Z0 hP11) hZ (hw _ (List.mem_of_getElem? (i := 21) rfl)) (hw _ (List.mem_of_getElem? (i := 3) rfl)) (by decide) (by decide)) q11a q11c (g := (mkF m 47 #[.val (.ref a1), .val (.ref a2)] [(.ref w9), (.ref w7)])) rfl (by rw [hml]; rfl) (Steps.refl _) (argsL := [(.ref w9)]) (rest := []) (lenOf pd_1_0 rfl) rfl (by show 2 * 0 + _ ≤ _; exact Nat.le_of_eq rfl) (hb hby d1_47) (fun _ _ => ⟨rfl, e10, (by decide : 0 + 0 ≤ _), (by decide : 0 + 0 ≤ _)⟩)
  dsimp only [Pt.U, Pt.locs, Pt.cells, Pt.slots] at X11 l11 y11 z11 st11 hQ11
  subst l11 y11 z11
  obtain ⟨rfl, N11q, e11⟩ := hQ11      -- what it returned, that it wrote nothing old, and the rest of your Q1_1b_ftffft
  have N11 := Fr.app N6 N11q
  obtain ⟨fs, hr, hrun, hended, hW, hsame⟩ := X11.leave (v := some (.int (0 : Int32))) (fun h => by rw [Bd.returns] at h; cases h)
  refine ⟨_, _, pre0 _ ?_, hrun, hended, _, _, rfl, ?_, ⟨_, rfl⟩, hW, hsame.mono (by decide) (by decide)⟩
  -- 4. STEPS
  · show Steps p.tables e below (s₁.setTop (mkF m 0 #[.val (.ref a1), .val (.ref a2)] [])) _
    refine XS.aloadN X0.here hx rfl (hb hby d1_0) rfl rfl ?_
    show Steps p.tables e below (s₁.setTop (mkF m 1 #[.val (.ref a1), .val (.ref a2)] [(.ref a2)])) _
    refine XS.aloadN X0.here hx rfl (hb hby d1_1) rfl rfl ?_
    show Steps p.tables e below (s₁.setTop (mkF m 2 #[.val (.ref a1), .val (.ref a2)] [(.ref a1), (.ref a2)])) _
    refine Jvm.RoadKit.acmp (g := (mkF m 2 #[.val (.ref a1), .val (.ref a2)] [(.ref a1), (.ref a2)])) X0 hx rfl rfl rfl (pc0 := 2) (pc' := 5) (same := false) rfl (hb hby d1_2) rfl (decide_eq_false fun q => ha2 (Value.ref.inj q)) (by decide) (by decide) ?_
    show Steps p.tables e below (s₁.setTop (mkF m 5 #[.val (.ref a1), .val (.ref a2)] [])) _
    refine XS.aloadN X0.here hx rfl (hb hby d1_5) rfl rfl ?_
    show Steps p.tables e below (s₁.setTop (mkF m 6 #[.val (.ref a1), .val (.ref a2)] [(.ref a1)])) _
    refine st4 _ ?_
    show Steps p.tables e below (T4.setTop (mkF m 9 #[.val (.ref a1), .val (.ref a2)] [(.ref w3), (.ref a1)])) _
    refine Jvm.RoadKit.acmp (g := (mkF m 9 #[.val (.ref a1), .val (.ref a2)] [(.ref w3), (.ref a1)])) X4 hx rfl rfl rfl (pc0 := 9) (pc' := 21) (same := false) rfl (hb hby d1_9) rfl (decide_eq_false fun q => ha9 (Value.ref.inj q)) (by decide) (by decide) ?_
    show Steps p.tables e below (T4.setTop (mkF m 21 #[.val (.ref a1), .val (.ref a2)] [])) _
    refine XS.aloadN X4.here hx rfl (hb hby d1_21) rfl rfl ?_
    show Steps p.tables e below (T4.setTop (mkF m 22 #[.val (.ref a1), .val (.ref a2)] [(.ref a1)])) _
    refine st5.trans ?_
    show Steps p.tables e below (T5.setTop (mkF m 25 #[.val (.ref a1), .val (.ref a2)] [(.int r5)])) _
    refine XS.ifNo X5.here hx rfl (hb hby d1_25) rfl ((if0 _ _).trans (feq hx1).1) ?_
    show Steps p.tables e below (T5.setTop (mkF m 28 #[.val (.ref a1), .val (.ref a2)] [])) _
    refine XS.aloadN X5.here hx rfl (hb hby d1_28) rfl rfl ?_
    show Steps p.tables e below (T5.setTop (mkF m 29 #[.val (.ref a1), .val (.ref a2)] [(.ref a2)])) _
    refine XS.ifnullNo X5.here hx rfl (hb hby d1_29) rfl ?_
    show Steps p.tables e below (T5.setTop (mkF m 32 #[.val (.ref a1), .val (.ref a2)] [])) _
    refine XS.aloadN X5.here hx rfl (hb hby d1_32) rfl rfl ?_
    show Steps p.tables e below (T5.setTop (mkF m 33 #[.val (.ref a1), .val (.ref a2)] [(.ref a2)])) _
    refine st6.trans ?_
    show Steps p.tables e below (T6.setTop (mkF m 36 #[.val (.ref a1), .val (.ref a2)] [(.int r6)])) _
    refine XS.ifNo X6.here hx rfl (hb hby d1_36) rfl ((if0 _ _).trans (feq hx2).1) ?_
    show Steps p.tables e below (T6.setTop (mkF m 39 #[.val (.ref a1), .val (.ref a2)] [])) _
    refine XS.aloadN X6.here hx rfl (hb hby d1_39) rfl rfl ?_
    show Steps p.tables e below (T6.setTop (mkF m 40 #[.val (.ref a1), .val (.ref a2)] [(.ref a1)])) _
    refine st8 _ ?_
    show Steps p.tables e below (T8.setTop (mkF m 43 #[.val (.ref a1), .val (.ref a2)] [(.ref w7)])) _
    refine XS.aloadN X8.here hx rfl (hb hby d1_43) rfl rfl ?_
    show Steps p.tables e below (T8.setTop (mkF m 44 #[.val (.ref a1), .val (.ref a2)] [(.ref a2), (.ref w7)])) _
    refine st10 _ ?_
    show Steps p.tables e below (T10.setTop (mkF m 47 #[.val (.ref a1), .val (.ref a2)] [(.ref w9), (.ref w7)])) _
    refine st11.trans ?_
    show Steps p.tables e below (T11.setTop (mkF m 50 #[.val (.ref a1), .val (.ref a2)] [(.int r11)])) _
    refine XS.ifYes X11.here hx rfl (pc0 := 50) (pc' := 57) rfl (hb hby d1_50) rfl ((if0 _ _).trans (teq hx3).1) (by decide) (by decide) ?_
    show Steps p.tables e below (T11.setTop (mkF m 57 #[.val (.ref a1), .val (.ref a2)] [])) _
    refine XS.iconst X11.here hx rfl (hb hby d1_57) ?_
    show Steps p.tables e below (T11.setTop (mkF m 58 #[.val (.ref a1), .val (.ref a2)] [(.int (0 : Int32))])) _
    exact retN X11 hx (t := .boolean) Bd.returns (by simp) (hb hby d1_58) hr
  · show Q1_1b_ftffft Z a1 a2 w3 w7 w9 r5 r6 r11 h0 n0 _ T11.heap _
    exact ⟨rfl, N11, e11⟩
def Q1_1b_fftffff (Z : State) (a1 : Addr) (a2 : Addr) (w3 : Addr) (w5 : Addr) (w9 : Addr) (w11 : Addr) (r7 : Int32) (r8 : Int32) (r13 : Int32) (h0 : Heap) (n0 : Nat) (v : Option Value) (h : Heap) (L : List Loc) : Prop := v = some (.int (1 : Int32)) ∧ Fr n0 L ∧ h = h0
set_option maxRecDepth 65536 in
set_option maxHeartbeats 40000000 in
theorem rm1_1b_fftffff (l : Launch) (Z : State) (a0 : Array Value) (hw : ∀ d ∈ tables_1, d.before a0 Z = true) (ws : List Jvm.Cond) (a1 : Addr) (a2 : Addr) (w3 : Addr) (w5 : Addr) (w9 : Addr) (w11 : Addr) (r7 : Int32) (r8 : Int32) (r13 : Int32) (h0 : Heap) (n0 : Nat) (Z0 : n0 ≤ h0.size) (S_DOUBLE : Sta Z h0 "com/example/indexwright/indexwright/sql/ColumnType" "DOUBLE" "Lcom/example/indexwright/indexwright/sql/ColumnType;" (.ref w3)) (S_BIGINT : Sta Z h0 "com/example/indexwright/indexwright/sql/ColumnType" "BIGINT" "Lcom/example/indexwright/indexwright/sql/ColumnType;" (.ref w5)) (E_a1 : Exa Z h0 a1 "com/example/indexwright/indexwright/sql/ColumnType") (E_a2 : Exa Z h0 a2 "com/example/indexwright/indexwright/sql/ColumnType") (F_element_a1 : Fld Z h0 a1 "com/example/indexwright/indexwright/sql/ColumnType" "element" "Lcom/example/indexwright/indexwright/sql/ColumnType;" (.ref w9)) (F_element_a2 : Fld Z h0 a2 "com/example/indexwright/indexwright/sql/ColumnType" "element" "Lcom/example/indexwright/indexwright/sql/ColumnType;" (.ref w11)) (E_w9 : Exa Z h0 w9 "com/example/indexwright/indexwright/sql/ColumnType") (ha2 : ¬ (a2 = a1)) (ha9 : a1 = w3) (ha16 : ¬ (a2 = w5)) (hP7 : P2 Z h0 a1 (some (.int r7))) (hP8 : P2 Z h0 a2 (some (.int r8))) (hP13 : P1a Z h0 w9 w11 (some (.int r13))) (hx1 : ¬ (r7 = (0 : Int32))) (hx2 : ¬ (r8 = (0 : Int32))) (hx3 : ¬ (r13 = (0 : Int32))) :
    MetFree l (⟨"com/example/indexwright/indexwright/sql/ColumnType", "holds", "(Lcom/example/indexwright/indexwright/sql/ColumnType;)Z"⟩ : MethodName) (head1 (Jvm.Cond.code (⟨"com/example/indexwright/indexwright/sql/ColumnType", "holds", "(Lcom/example/indexwright/indexwright/sql/ColumnType;)Z"⟩ : MethodName) prog_54_method_14_code 2 (some .boolean) :: ws) ({ frames := 2, cells := 0, slots := 0, locals := 25 } : Room)) (fun a U => a = #[(.ref a1), (.ref a2)] ∧ Z.Warmed39 U.vm ∧ U.heap = h0) (fun _ _ _ _ _ => True) (fun _ U o U' => ∃ v L, o = .returned v ∧ Q1_1b_fftffff Z a1 a2 w3 w5 w9 w11 r7 r8 r13 h0 n0 v U'.heap L ∧ FrameEnd U o U' L ({ frames := 2, cells := 0, slots := 0, locals := 25 } : Room).cells ({ frames := 2, cells := 0, slots := 0, locals := 25 } : Room).slots) := by
  refine MetFree.of_bodySF (plainFor_of_name pn_1) hisR ?_
  intro p e s m args below meth c s₁ Bd hml0 hP hK
  obtain ⟨rfl, hZ, hh⟩ := hP
  have hx := Bd.exec
  have hby := Bd.bytes
  have hml : c.maxLocals = 2 := hml0
  have hown : s.vm.findClass "com/example/indexwright/indexwright/sql/ColumnType" = some m.cls := findClass_of_methodNamed Bd.named
  have hnm := (name_of_methodNamed Bd.named Bd.method).1
  have X0 : Stand p l e ({ frames := 2, cells := 0, slots := 0, locals := 25 } : Room) s m #[(.ref a1), (.ref a2)] below meth c s₁ [] 0 0 := Stand.of_body Bd
  have e0 : s₁.heap = h0 := by rw [← hh, Bd.state]; rfl
  have N0 := Fr.nil n0
  have pre0 : ∀ t, Steps p.tables e below (s₁.setTop (mkF m 0 #[.val (.ref a1), .val (.ref a2)] [])) t → Steps p.tables e below (s₁.setTop (entryFrame m #[(.ref a1), (.ref a2)] 2)) t := fun t k => castTop (ef_1 m a1 a2) k
  -- 3. LAWS
  obtain ⟨T4, X4, e4, st4⟩ := getS2 X0 hx hZ hown (host := "") (Or.inl (hw _ (List.mem_of_getElem? (i := 22) rfl))) Via.refl e0 S_DOUBLE (g := (mkF m 6 #[.val (.ref a1), .val (.ref a2)] [(.ref a1)])) rfl (hb hby d1_6)
  obtain ⟨T6, X6, e6, st6⟩ := getS2 X4 hx hZ hown (host := "") (Or.inl (hw _ (List.mem_of_getElem? (i := 30) rfl))) Via.refl e4 S_BIGINT (g := (mkF m 13 #[.val (.ref a1), .val (.ref a2)] [(.ref a2)])) rfl (hb hby d1_13)
  -- pc 22: com/example/indexwright/indexwright/sql/ColumnType.isArray by the contract of the body that the receiver's class selects, rm2
  obtain ⟨cq7, kq7, q7a, q7b, q7c⟩ := isOf hZ e6 E_a1
  obtain ⟨_, _, ⟨T7, L7, k7, n7⟩, -, X7, ⟨Lc7, hQ7, l7, y7, z7⟩, st7⟩ := X6.virtualBack hx (y := (⟨"com/example/indexwright/indexwright/sql/ColumnType", "isArray", "()Z"⟩ : MethodName)) (z := (⟨"com/example/indexwright/indexwright/sql/ColumnType", "isArray", "()Z"⟩ : MethodName)) hown (mvT hZ (hw _ (List.mem_of_getElem? (i := 23) rfl))) (mvT hZ (hw _ (List.mem_of_getElem? (i := 24) rfl))) (notFace_of_selects (args := #[]) (mvT hZ (hw _ (List.mem_of_getElem? (i := 26) rfl)))) (mvT hZ (hw _ (List.mem_of_getElem? (i := 26) rfl))) (mvT hZ (hw _ (List.mem_of_getElem? (i := 25) rfl))) (by decide) (backOf (W := 0) (own_2 l Z a0 hw [] a1 (some (.int r7)) h0 n0 Z0 hP7) hZ (hw _ (List.mem_of_getElem? (i := 27) rfl)) (hw _ (List.mem_of_getElem? (i := 3) rfl)) (by decide) (by decide)) q7a q7c (g := (mkF m 22 #[.val (.ref a1), .val (.ref a2)] [(.ref a1)])) rfl (by rw [hml]; rfl) (Steps.refl _) (argsL := []) (rest := []) (lenOf pd_1_1 rfl) rfl (by show 2 * 0 + _ ≤ _; exact Nat.le_of_eq rfl) (hb hby d1_22) (fun _ _ => ⟨rfl, e6, (by decide : 0 + 0 ≤ _), (by decide : 0 + 0 ≤ _)⟩)
  dsimp only [Pt.U, Pt.locs, Pt.cells, Pt.slots] at X7 l7 y7 z7 st7 hQ7
  subst l7 y7 z7
  obtain ⟨rfl, N7q, e7⟩ := hQ7      -- what it returned, that it wrote nothing old, and the rest of your Q2
  have N7 := Fr.app N0 N7q
  -- pc 33: com/example/indexwright/indexwright/sql/ColumnType.isArray by the contract of the body that the receiver's class selects, rm2
  obtain ⟨cq8, kq8, q8a, q8b, q8c⟩ := isOf hZ e7 E_a2
  obtain ⟨_, _, ⟨T8, L8, k8, n8⟩, -, X8, ⟨Lc8, hQ8, l8, y8, z8⟩, st8⟩ := X7.virtualBack hx (y := (⟨"com/example/indexwright/indexwright/sql/ColumnType", "isArray", "()Z"⟩ : MethodName)) (z := (⟨"com/example/indexwright/indexwright/sql/ColumnType", "isArray", "()Z"⟩ : MethodName)) hown (mvT hZ (hw _ (List.mem_of_getElem? (i := 23) rfl))) (mvT hZ (hw _ (List.mem_of_getElem? (i := 24) rfl))) (notFace_of_selects (args := #[]) (mvT hZ (hw _ (List.mem_of_getElem? (i := 26) rfl)))) (mvT hZ (hw _ (List.mem_of_getElem? (i := 26) rfl))) (mvT hZ (hw _ (List.mem_of_getElem? (i := 25) rfl))) (by decide) (backOf (W := 0) (own_2 l Z a0 hw [] a2 (some (.int r8)) h0 n0 Z0 hP8) hZ (hw _ (List.mem_of_getElem? (i := 27) rfl)) (hw _ (List.mem_of_getElem? (i := 3) rfl)) (by decide) (by decide)) q8a q8c (g := (mkF m 33 #[.val (.ref a1), .val (.ref a2)] [(.ref a2)])) rfl (by rw [hml]; rfl) (Steps.refl _) (argsL := []) (rest := []) (lenOf pd_1_1 rfl) rfl (by show 2 * 0 + _ ≤ _; exact Nat.le_of_eq rfl) (hb hby d1_33) (fun _ _ => ⟨rfl, e7, (by decide : 0 + 0 ≤ _), (by decide : 0 + 0 ≤ _)⟩)
  dsimp only [Pt.U, Pt.locs, Pt.cells, Pt.slots] at X8 l8 y8 z8 st8 hQ8
  subst l8 y8 z8
  obtain ⟨rfl, N8q, e8⟩ := hQ8      -- what it returned, that it wrote nothing old, and the rest of your Q2
  have N8 := Fr.app N7 N8q
  obtain ⟨T10, X10, e10, st10⟩ := getF X8 hx hZ hown (host := "") (Or.inl (hw _ (List.mem_of_getElem? (i := 28) rfl))) Via.refl e8 F_element_a1 (g := (mkF m 40 #[.val (.ref a1), .val (.ref a2)] [(.ref a1)])) rfl rfl (hb hby d1_40)
  obtain ⟨T12, X12, e12, st12⟩ := getF X10 hx hZ hown (host := "") (Or.inl (hw _ (List.mem_of_getElem? (i := 28) rfl))) Via.refl e10 F_element_a2 (g := (mkF m 44 #[.val (.ref a1), .val (.ref a2)] [(.ref a2), (.ref w9)])) rfl rfl (hb hby d1_44)
  -- pc 47: com/example/indexwright/indexwright/sql/ColumnType.holds by the contract of the body that the receiver's class selects, rm1
  obtain ⟨cq13, kq13, q13a, q13b, q13c⟩ := isOf hZ e12 E_w9
  obtain ⟨_, _, ⟨T13, L13, k13, n13⟩, -, X13, ⟨Lc13, hQ13, l13, y13, z13⟩, st13⟩ := X12.virtualBack hx (y := (⟨"com/example/indexwright/indexwright/sql/ColumnType", "holds", "(Lcom/example/indexwright/indexwright/sql/ColumnType;)Z"⟩ : MethodName)) (z := (⟨"com/example/indexwright/indexwright/sql/ColumnType", "holds", "(Lcom/example/indexwright/indexwright/sql/ColumnType;)Z"⟩ : MethodName)) hown (mvT hZ (hw _ (List.mem_of_getElem? (i := 31) rfl))) (mvT hZ (hw _ (List.mem_of_getElem? (i := 18) rfl))) (notFace_of_selects (args := #[]) (mvT hZ (hw _ (List.mem_of_getElem? (i := 20) rfl)))) (mvT hZ (hw _ (List.mem_of_getElem? (i := 20) rfl))) (mvT hZ (hw _ (List.mem_of_getElem? (i := 19) rfl))) (by decide) (backOf (W := 0) (own_1a l Z a0 hw [] w9 w11 (some (.int r13)) h0 n0 Z0 hP13) hZ (hw _ (List.mem_of_getElem? (i := 21) rfl)) (hw _ (List.mem_of_getElem? (i := 3) rfl)) (by decide) (by decide)) q13a q13c (g := (mkF m 47 #[.val (.ref a1), .val (.ref a2)] [(.ref w11), (.ref w9)])) rfl (by rw [hml]; rfl) (Steps.refl _) (argsL := [(.ref w11)]) (rest := []) (lenOf pd_1_0 rfl) rfl (by show 2 * 0 + _ ≤ _; exact Nat.le_of_eq rfl) (hb hby d1_47) (fun _ _ => ⟨rfl, e12, (by decide : 0 + 0 ≤ _), (by decide : 0 + 0 ≤ _)⟩)
  dsimp only [Pt.U, Pt.locs, Pt.cells, Pt.slots] at X13 l13 y13 z13 st13 hQ13
  subst l13 y13 z13
  obtain ⟨rfl, N13q, e13⟩ := hQ13      -- what it returned, that it wrote nothing old, and the rest of your Q1_1b_fftffff
  have N13 := Fr.app N8 N13q
  obtain ⟨fs, hr, hrun, hended, hW, hsame⟩ := X13.leave (v := some (.int (1 : Int32))) (fun h => by rw [Bd.returns] at h; cases h)
  refine ⟨_, _, pre0 _ ?_, hrun, hended, _, _, rfl, ?_, ⟨_, rfl⟩, hW, hsame.mono (by decide) (by decide)⟩
  -- 4. STEPS
  · show Steps p.tables e below (s₁.setTop (mkF m 0 #[.val (.ref a1), .val (.ref a2)] [])) _
    refine XS.aloadN X0.here hx rfl (hb hby d1_0) rfl rfl ?_
    show Steps p.tables e below (s₁.setTop (mkF m 1 #[.val (.ref a1), .val (.ref a2)] [(.ref a2)])) _
    refine XS.aloadN X0.here hx rfl (hb hby d1_1) rfl rfl ?_
    show Steps p.tables e below (s₁.setTop (mkF m 2 #[.val (.ref a1), .val (.ref a2)] [(.ref a1), (.ref a2)])) _
    refine Jvm.RoadKit.acmp (g := (mkF m 2 #[.val (.ref a1), .val (.ref a2)] [(.ref a1), (.ref a2)])) X0 hx rfl rfl rfl (pc0 := 2) (pc' := 5) (same := false) rfl (hb hby d1_2) rfl (decide_eq_false fun q => ha2 (Value.ref.inj q)) (by decide) (by decide) ?_
    show Steps p.tables e below (s₁.setTop (mkF m 5 #[.val (.ref a1), .val (.ref a2)] [])) _
    refine XS.aloadN X0.here hx rfl (hb hby d1_5) rfl rfl ?_
    show Steps p.tables e below (s₁.setTop (mkF m 6 #[.val (.ref a1), .val (.ref a2)] [(.ref a1)])) _
    refine st4 _ ?_
    show Steps p.tables e below (T4.setTop (mkF m 9 #[.val (.ref a1), .val (.ref a2)] [(.ref w3), (.ref a1)])) _
    refine Jvm.RoadKit.acmp (g := (mkF m 9 #[.val (.ref a1), .val (.ref a2)] [(.ref w3), (.ref a1)])) X4 hx rfl rfl rfl (pc0 := 9) (pc' := 12) (same := true) rfl (hb hby d1_9) rfl (decide_eq_true (congrArg Value.ref ha9)) (by decide) (by decide) ?_
    show Steps p.tables e below (T4.setTop (mkF m 12 #[.val (.ref a1), .val (.ref a2)] [])) _
    refine XS.aloadN X4.here hx rfl (hb hby d1_12) rfl rfl ?_
    show Steps p.tables e below (T4.setTop (mkF m 13 #[.val (.ref a1), .val (.ref a2)] [(.ref a2)])) _
    refine st6 _ ?_
    show Steps p.tables e below (T6.setTop (mkF m 16 #[.val (.ref a1), .val (.ref a2)] [(.ref w5), (.ref a2)])) _
    refine Jvm.RoadKit.acmp (g := (mkF m 16 #[.val (.ref a1), .val (.ref a2)] [(.ref w5), (.ref a2)])) X6 hx rfl rfl rfl (pc0 := 16) (pc' := 21) (same := false) rfl (hb hby d1_16) rfl (decide_eq_false fun q => ha16 (Value.ref.inj q)) (by decide) (by decide) ?_
    show Steps p.tables e below (T6.setTop (mkF m 21 #[.val (.ref a1), .val (.ref a2)] [])) _
    refine XS.aloadN X6.here hx rfl (hb hby d1_21) rfl rfl ?_
    show Steps p.tables e below (T6.setTop (mkF m 22 #[.val (.ref a1), .val (.ref a2)] [(.ref a1)])) _
    refine st7.trans ?_
    show Steps p.tables e below (T7.setTop (mkF m 25 #[.val (.ref a1), .val (.ref a2)] [(.int r7)])) _
    refine XS.ifNo X7.here hx rfl (hb hby d1_25) rfl ((if0 _ _).trans (feq hx1).1) ?_
    show Steps p.tables e below (T7.setTop (mkF m 28 #[.val (.ref a1), .val (.ref a2)] [])) _
    refine XS.aloadN X7.here hx rfl (hb hby d1_28) rfl rfl ?_
    show Steps p.tables e below (T7.setTop (mkF m 29 #[.val (.ref a1), .val (.ref a2)] [(.ref a2)])) _
    refine XS.ifnullNo X7.here hx rfl (hb hby d1_29) rfl ?_
    show Steps p.tables e below (T7.setTop (mkF m 32 #[.val (.ref a1), .val (.ref a2)] [])) _
    refine XS.aloadN X7.here hx rfl (hb hby d1_32) rfl rfl ?_
    show Steps p.tables e below (T7.setTop (mkF m 33 #[.val (.ref a1), .val (.ref a2)] [(.ref a2)])) _
    refine st8.trans ?_
    show Steps p.tables e below (T8.setTop (mkF m 36 #[.val (.ref a1), .val (.ref a2)] [(.int r8)])) _
    refine XS.ifNo X8.here hx rfl (hb hby d1_36) rfl ((if0 _ _).trans (feq hx2).1) ?_
    show Steps p.tables e below (T8.setTop (mkF m 39 #[.val (.ref a1), .val (.ref a2)] [])) _
    refine XS.aloadN X8.here hx rfl (hb hby d1_39) rfl rfl ?_
    show Steps p.tables e below (T8.setTop (mkF m 40 #[.val (.ref a1), .val (.ref a2)] [(.ref a1)])) _
    refine st10 _ ?_
    show Steps p.tables e below (T10.setTop (mkF m 43 #[.val (.ref a1), .val (.ref a2)] [(.ref w9)])) _
    refine XS.aloadN X10.here hx rfl (hb hby d1_43) rfl rfl ?_
    show Steps p.tables e below (T10.setTop (mkF m 44 #[.val (.ref a1), .val (.ref a2)] [(.ref a2), (.ref w9)])) _
    refine st12 _ ?_
    show Steps p.tables e below (T12.setTop (mkF m 47 #[.val (.ref a1), .val (.ref a2)] [(.ref w11), (.ref w9)])) _
    refine st13.trans ?_
    show Steps p.tables e below (T13.setTop (mkF m 50 #[.val (.ref a1), .val (.ref a2)] [(.int r13)])) _
    refine XS.ifNo X13.here hx rfl (hb hby d1_50) rfl ((if0 _ _).trans (feq hx3).1) ?_
    show Steps p.tables e below (T13.setTop (mkF m 53 #[.val (.ref a1), .val (.ref a2)] [])) _
    refine XS.iconst X13.here hx rfl (hb hby d1_53) ?_
    show Steps p.tables e below (T13.setTop (mkF m 54 #[.val (.ref a1), .val (.ref a2)] [(.int (1 : Int32))])) _
    refine XS.goto X13.here hx rfl (pc0 := 54) (pc' := 58) rfl (hb hby d1_54) (by decide) (by decide) ?_
    show Steps p.tables e below (T13.setTop (mkF m 58 #[.val (.ref a1), .val (.ref a2)] [(.int (1 : Int32))])) _
    exact retN X13 hx (t := .boolean) Bd.returns (by simp) (hb hby d1_58) hr
  · show Q1_1b_fftffff Z a1 a2 w3 w5 w9 w11 r7 r8 r13 h0 n0 _ T13.heap _
    exact ⟨rfl, N13, e13⟩
def Q1_1b_fftffft (Z : State) (a1 : Addr) (a2 : Addr) (w3 : Addr) (w5 : Addr) (w9 : Addr) (w11 : Addr) (r7 : Int32) (r8 : Int32) (r13 : Int32) (h0 : Heap) (n0 : Nat) (v : Option Value) (h : Heap) (L : List Loc) : Prop := v = some (.int (0 : Int32)) ∧ Fr n0 L ∧ h = h0
set_option maxRecDepth 65536 in
set_option maxHeartbeats 40000000 in
theorem rm1_1b_fftffft (l : Launch) (Z : State) (a0 : Array Value) (hw : ∀ d ∈ tables_1, d.before a0 Z = true) (ws : List Jvm.Cond) (a1 : Addr) (a2 : Addr) (w3 : Addr) (w5 : Addr) (w9 : Addr) (w11 : Addr) (r7 : Int32) (r8 : Int32) (r13 : Int32) (h0 : Heap) (n0 : Nat) (Z0 : n0 ≤ h0.size) (S_DOUBLE : Sta Z h0 "com/example/indexwright/indexwright/sql/ColumnType" "DOUBLE" "Lcom/example/indexwright/indexwright/sql/ColumnType;" (.ref w3)) (S_BIGINT : Sta Z h0 "com/example/indexwright/indexwright/sql/ColumnType" "BIGINT" "Lcom/example/indexwright/indexwright/sql/ColumnType;" (.ref w5)) (E_a1 : Exa Z h0 a1 "com/example/indexwright/indexwright/sql/ColumnType") (E_a2 : Exa Z h0 a2 "com/example/indexwright/indexwright/sql/ColumnType") (F_element_a1 : Fld Z h0 a1 "com/example/indexwright/indexwright/sql/ColumnType" "element" "Lcom/example/indexwright/indexwright/sql/ColumnType;" (.ref w9)) (F_element_a2 : Fld Z h0 a2 "com/example/indexwright/indexwright/sql/ColumnType" "element" "Lcom/example/indexwright/indexwright/sql/ColumnType;" (.ref w11)) (E_w9 : Exa Z h0 w9 "com/example/indexwright/indexwright/sql/ColumnType") (ha2 : ¬ (a2 = a1)) (ha9 : a1 = w3) (ha16 : ¬ (a2 = w5)) (hP7 : P2 Z h0 a1 (some (.int r7))) (hP8 : P2 Z h0 a2 (some (.int r8))) (hP13 : P1a Z h0 w9 w11 (some (.int r13))) (hx1 : ¬ (r7 = (0 : Int32))) (hx2 : ¬ (r8 = (0 : Int32))) (hx3 : r13 = (0 : Int32)) :
    MetFree l (⟨"com/example/indexwright/indexwright/sql/ColumnType", "holds", "(Lcom/example/indexwright/indexwright/sql/ColumnType;)Z"⟩ : MethodName) (head1 (Jvm.Cond.code (⟨"com/example/indexwright/indexwright/sql/ColumnType", "holds", "(Lcom/example/indexwright/indexwright/sql/ColumnType;)Z"⟩ : MethodName) prog_54_method_14_code 2 (some .boolean) :: ws) ({ frames := 2, cells := 0, slots := 0, locals := 25 } : Room)) (fun a U => a = #[(.ref a1), (.ref a2)] ∧ Z.Warmed39 U.vm ∧ U.heap = h0) (fun _ _ _ _ _ => True) (fun _ U o U' => ∃ v L, o = .returned v ∧ Q1_1b_fftffft Z a1 a2 w3 w5 w9 w11 r7 r8 r13 h0 n0 v U'.heap L ∧ FrameEnd U o U' L ({ frames := 2, cells := 0, slots := 0, locals := 25 } : Room).cells ({ frames := 2, cells := 0, slots := 0, locals := 25 } : Room).slots) := by
  refine MetFree.of_bodySF (plainFor_of_name pn_1) hisR ?_
  intro p e s m args below meth c s₁ Bd hml0 hP hK
  obtain ⟨rfl, hZ, hh⟩ := hP
  have hx := Bd.exec
  have hby := Bd.bytes
  have hml : c.maxLocals = 2 := hml0
  have hown : s.vm.findClass "com/example/indexwright/indexwright/sql/ColumnType" = some m.cls := findClass_of_methodNamed Bd.named
  have hnm := (name_of_methodNamed Bd.named Bd.method).1
  have X0 : Stand p l e ({ frames := 2, cells := 0, slots := 0, locals := 25 } : Room) s m #[(.ref a1), (.ref a2)] below meth c s₁ [] 0 0 := Stand.of_body Bd
  have e0 : s₁.heap = h0 := by rw [← hh, Bd.state]; rfl
  have N0 := Fr.nil n0
  have pre0 : ∀ t, Steps p.tables e below (s₁.setTop (mkF m 0 #[.val (.ref a1), .val (.ref a2)] [])) t → Steps p.tables e below (s₁.setTop (entryFrame m #[(.ref a1), (.ref a2)] 2)) t := fun t k => castTop (ef_1 m a1 a2) k
  -- 3. LAWS
  obtain ⟨T4, X4, e4, st4⟩ := getS2 X0 hx hZ hown (host := "") (Or.inl (hw _ (List.mem_of_getElem? (i := 22) rfl))) Via.refl e0 S_DOUBLE (g := (mkF m 6 #[.val (.ref a1), .val (.ref a2)] [(.ref a1)])) rfl (hb hby d1_6)
  obtain ⟨T6, X6, e6, st6⟩ := getS2 X4 hx hZ hown (host := "") (Or.inl (hw _ (List.mem_of_getElem? (i := 30) rfl))) Via.refl e4 S_BIGINT (g := (mkF m 13 #[.val (.ref a1), .val (.ref a2)] [(.ref a2)])) rfl (hb hby d1_13)
  -- pc 22: com/example/indexwright/indexwright/sql/ColumnType.isArray by the contract of the body that the receiver's class selects, rm2
  obtain ⟨cq7, kq7, q7a, q7b, q7c⟩ := isOf hZ e6 E_a1
  obtain ⟨_, _, ⟨T7, L7, k7, n7⟩, -, X7, ⟨Lc7, hQ7, l7, y7, z7⟩, st7⟩ := X6.virtualBack hx (y := (⟨"com/example/indexwright/indexwright/sql/ColumnType", "isArray", "()Z"⟩ : MethodName)) (z := (⟨"com/example/indexwright/indexwright/sql/ColumnType", "isArray", "()Z"⟩ : MethodName)) hown (mvT hZ (hw _ (List.mem_of_getElem? (i := 23) rfl))) (mvT hZ (hw _ (List.mem_of_getElem? (i := 24) rfl))) (notFace_of_selects (args := #[]) (mvT hZ (hw _ (List.mem_of_getElem? (i := 26) rfl)))) (mvT hZ (hw _ (List.mem_of_getElem? (i := 26) rfl))) (mvT hZ (hw _ (List.mem_of_getElem? (i := 25) rfl))) (by decide) (backOf (W := 0) (own_2 l Z a0 hw [] a1 (some (.int r7)) h0 n0 Z0 hP7) hZ (hw _ (List.mem_of_getElem? (i := 27) rfl)) (hw _ (List.mem_of_getElem? (i := 3) rfl)) (by decide) (by decide)) q7a q7c (g := (mkF m 22 #[.val (.ref a1), .val (.ref a2)] [(.ref a1)])) rfl (by rw [hml]; rfl) (Steps.refl _) (argsL := []) (rest := []) (lenOf pd_1_1 rfl) rfl (by show 2 * 0 + _ ≤ _; exact Nat.le_of_eq rfl) (hb hby d1_22) (fun _ _ => ⟨rfl, e6, (by decide : 0 + 0 ≤ _), (by decide : 0 + 0 ≤ _)⟩)
  dsimp only [Pt.U, Pt.locs, Pt.cells, Pt.slots] at X7 l7 y7 z7 st7 hQ7
  subst l7 y7 z7
  obtain ⟨rfl, N7q, e7⟩ := hQ7      -- what it returned, that it wrote nothing old, and the rest of your Q2
  have N7 := Fr.app N0 N7q
  -- pc 33: com/example/indexwright/indexwright/sql/ColumnType.isArray by the contract of the body that the receiver's class selects, rm2
  obtain ⟨cq8, kq8, q8a, q8b, q8c⟩ := isOf hZ e7 E_a2
  obtain ⟨_, _, ⟨T8, L8, k8, n8⟩, -, X8, ⟨Lc8, hQ8, l8, y8, z8⟩, st8⟩ := X7.virtualBack hx (y := (⟨"com/example/indexwright/indexwright/sql/ColumnType", "isArray", "()Z"⟩ : MethodName)) (z := (⟨"com/example/indexwright/indexwright/sql/ColumnType", "isArray", "()Z"⟩ : MethodName)) hown (mvT hZ (hw _ (List.mem_of_getElem? (i := 23) rfl))) (mvT hZ (hw _ (List.mem_of_getElem? (i := 24) rfl))) (notFace_of_selects (args := #[]) (mvT hZ (hw _ (List.mem_of_getElem? (i := 26) rfl)))) (mvT hZ (hw _ (List.mem_of_getElem? (i := 26) rfl))) (mvT hZ (hw _ (List.mem_of_getElem? (i := 25) rfl))) (by decide) (backOf (W := 0) (own_2 l Z a0 hw [] a2 (some (.int r8)) h0 n0 Z0 hP8) hZ (hw _ (List.mem_of_getElem? (i := 27) rfl)) (hw _ (List.mem_of_getElem? (i := 3) rfl)) (by decide) (by decide)) q8a q8c (g := (mkF m 33 #[.val (.ref a1), .val (.ref a2)] [(.ref a2)])) rfl (by rw [hml]; rfl) (Steps.refl _) (argsL := []) (rest := []) (lenOf pd_1_1 rfl) rfl (by show 2 * 0 + _ ≤ _; exact Nat.le_of_eq rfl) (hb hby d1_33) (fun _ _ => ⟨rfl, e7, (by decide : 0 + 0 ≤ _), (by decide : 0 + 0 ≤ _)⟩)
  dsimp only [Pt.U, Pt.locs, Pt.cells, Pt.slots] at X8 l8 y8 z8 st8 hQ8
  subst l8 y8 z8
  obtain ⟨rfl, N8q, e8⟩ := hQ8      -- what it returned, that it wrote nothing old, and the rest of your Q2
  have N8 := Fr.app N7 N8q
  obtain ⟨T10, X10, e10, st10⟩ := getF X8 hx hZ hown (host := "") (Or.inl (hw _ (List.mem_of_getElem? (i := 28) rfl))) Via.refl e8 F_element_a1 (g := (mkF m 40 #[.val (.ref a1), .val (.ref a2)] [(.ref a1)])) rfl rfl (hb hby d1_40)
  obtain ⟨T12, X12, e12, st12⟩ := getF X10 hx hZ hown (host := "") (Or.inl (hw _ (List.mem_of_getElem? (i := 28) rfl))) Via.refl e10 F_element_a2 (g := (mkF m 44 #[.val (.ref a1), .val (.ref a2)] [(.ref a2), (.ref w9)])) rfl rfl (hb hby d1_44)
  -- pc 47: com/example/indexwright/indexwright/sql/ColumnType.holds by the contract of the body that the receiver's class selects, rm1
  obtain ⟨cq13, kq13, q13a, q13b, q13c⟩ := isOf hZ e12 E_w9
  obtain ⟨_, _, ⟨T13, L13, k13, n13⟩, -, X13, ⟨Lc13, hQ13, l13, y13, z13⟩, st13⟩ := X12.virtualBack hx (y := (⟨"com/example/indexwright/indexwright/sql/ColumnType", "holds", "(Lcom/example/indexwright/indexwright/sql/ColumnType;)Z"⟩ : MethodName)) (z := (⟨"com/example/indexwright/indexwright/sql/ColumnType", "holds", "(Lcom/example/indexwright/indexwright/sql/ColumnType;)Z"⟩ : MethodName)) hown (mvT hZ (hw _ (List.mem_of_getElem? (i := 31) rfl))) (mvT hZ (hw _ (List.mem_of_getElem? (i := 18) rfl))) (notFace_of_selects (args := #[]) (mvT hZ (hw _ (List.mem_of_getElem? (i := 20) rfl)))) (mvT hZ (hw _ (List.mem_of_getElem? (i := 20) rfl))) (mvT hZ (hw _ (List.mem_of_getElem? (i := 19) rfl))) (by decide) (backOf (W := 0) (own_1a l Z a0 hw [] w9 w11 (some (.int r13)) h0 n0 Z0 hP13) hZ (hw _ (List.mem_of_getElem? (i := 21) rfl)) (hw _ (List.mem_of_getElem? (i := 3) rfl)) (by decide) (by decide)) q13a q13c (g := (mkF m 47 #[.val (.ref a1), .val (.ref a2)] [(.ref w11), (.ref w9)])) rfl (by rw [hml]; rfl) (Steps.refl _) (argsL := [(.ref w11)]) (rest := []) (lenOf pd_1_0 rfl) rfl (by show 2 * 0 + _ ≤ _; exact Nat.le_of_eq rfl) (hb hby d1_47) (fun _ _ => ⟨rfl, e12, (by decide : 0 + 0 ≤ _), (by decide : 0 + 0 ≤ _)⟩)
  dsimp only [Pt.U, Pt.locs, Pt.cells, Pt.slots] at X13 l13 y13 z13 st13 hQ13
  subst l13 y13 z13
  obtain ⟨rfl, N13q, e13⟩ := hQ13      -- what it returned, that it wrote nothing old, and the rest of your Q1_1b_fftffft
  have N13 := Fr.app N8 N13q
  obtain ⟨fs, hr, hrun, hended, hW, hsame⟩ := X13.leave (v := some (.int (0 : Int32))) (fun h => by rw [Bd.returns] at h; cases h)
  refine ⟨_, _, pre0 _ ?_, hrun, hended, _, _, rfl, ?_, ⟨_, rfl⟩, hW, hsame.mono (by decide) (by decide)⟩
  -- 4. STEPS
  · show Steps p.tables e below (s₁.setTop (mkF m 0 #[.val (.ref a1), .val (.ref a2)] [])) _
    refine XS.aloadN X0.here hx rfl (hb hby d1_0) rfl rfl ?_
    show Steps p.tables e below (s₁.setTop (mkF m 1 #[.val (.ref a1), .val (.ref a2)] [(.ref a2)])) _
    refine XS.aloadN X0.here hx rfl (hb hby d1_1) rfl rfl ?_
    show Steps p.tables e below (s₁.setTop (mkF m 2 #[.val (.ref a1), .val (.ref a2)] [(.ref a1), (.ref a2)])) _
    refine Jvm.RoadKit.acmp (g := (mkF m 2 #[.val (.ref a1), .val (.ref a2)] [(.ref a1), (.ref a2)])) X0 hx rfl rfl rfl (pc0 := 2) (pc' := 5) (same := false) rfl (hb hby d1_2) rfl (decide_eq_false fun q => ha2 (Value.ref.inj q)) (by decide) (by decide) ?_
    show Steps p.tables e below (s₁.setTop (mkF m 5 #[.val (.ref a1), .val (.ref a2)] [])) _
    refine XS.aloadN X0.here hx rfl (hb hby d1_5) rfl rfl ?_
    show Steps p.tables e below (s₁.setTop (mkF m 6 #[.val (.ref a1), .val (.ref a2)] [(.ref a1)])) _
    refine st4 _ ?_
    show Steps p.tables e below (T4.setTop (mkF m 9 #[.val (.ref a1), .val (.ref a2)] [(.ref w3), (.ref a1)])) _
    refine Jvm.RoadKit.acmp (g := (mkF m 9 #[.val (.ref a1), .val (.ref a2)] [(.ref w3), (.ref a1)])) X4 hx rfl rfl rfl (pc0 := 9) (pc' := 12) (same := true) rfl (hb hby d1_9) rfl (decide_eq_true (congrArg Value.ref ha9)) (by decide) (by decide) ?_
    show Steps p.tables e below (T4.setTop (mkF m 12 #[.val (.ref a1), .val (.ref a2)] [])) _
    refine XS.aloadN X4.here hx rfl (hb hby d1_12) rfl rfl ?_
    show Steps p.tables e below (T4.setTop (mkF m 13 #[.val (.ref a1), .val (.ref a2)] [(.ref a2)])) _
    refine st6 _ ?_
    show Steps p.tables e below (T6.setTop (mkF m 16 #[.val (.ref a1), .val (.ref a2)] [(.ref w5), (.ref a2)])) _
    refine Jvm.RoadKit.acmp (g := (mkF m 16 #[.val (.ref a1), .val (.ref a2)] [(.ref w5), (.ref a2)])) X6 hx rfl rfl rfl (pc0 := 16) (pc' := 21) (same := false) rfl (hb hby d1_16) rfl (decide_eq_false fun q => ha16 (Value.ref.inj q)) (by decide) (by decide) ?_
    show Steps p.tables e below (T6.setTop (mkF m 21 #[.val (.ref a1), .val (.ref a2)] [])) _
    refine XS.aloadN X6.here hx rfl (hb hby d1_21) rfl rfl ?_
    show Steps p.tables e below (T6.setTop (mkF m 22 #[.val (.ref a1), .val (.ref a2)] [(.ref a1)])) _
    refine st7.trans ?_
    show Steps p.tables e below (T7.setTop (mkF m 25 #[.val (.ref a1), .val (.ref a2)] [(.int r7)])) _
    refine XS.ifNo X7.here hx rfl (hb hby d1_25) rfl ((if0 _ _).trans (feq hx1).1) ?_
    show Steps p.tables e below (T7.setTop (mkF m 28 #[.val (.ref a1), .val (.ref a2)] [])) _
    refine XS.aloadN X7.here hx rfl (hb hby d1_28) rfl rfl ?_
    show Steps p.tables e below (T7.setTop (mkF m 29 #[.val (.ref a1), .val (.ref a2)] [(.ref a2)])) _
    refine XS.ifnullNo X7.here hx rfl (hb hby d1_29) rfl ?_
    show Steps p.tables e below (T7.setTop (mkF m 32 #[.val (.ref a1), .val (.ref a2)] [])) _
    refine XS.aloadN X7.here hx rfl (hb hby d1_32) rfl rfl ?_
    show Steps p.tables e below (T7.setTop (mkF m 33 #[.val (.ref a1), .val (.ref a2)] [(.ref a2)])) _
    refine st8.trans ?_
    show Steps p.tables e below (T8.setTop (mkF m 36 #[.val (.ref a1), .val (.ref a2)] [(.int r8)])) _
    refine XS.ifNo X8.here hx rfl (hb hby d1_36) rfl ((if0 _ _).trans (feq hx2).1) ?_
    show Steps p.tables e below (T8.setTop (mkF m 39 #[.val (.ref a1), .val (.ref a2)] [])) _
    refine XS.aloadN X8.here hx rfl (hb hby d1_39) rfl rfl ?_
    show Steps p.tables e below (T8.setTop (mkF m 40 #[.val (.ref a1), .val (.ref a2)] [(.ref a1)])) _
    refine st10 _ ?_
    show Steps p.tables e below (T10.setTop (mkF m 43 #[.val (.ref a1), .val (.ref a2)] [(.ref w9)])) _
    refine XS.aloadN X10.here hx rfl (hb hby d1_43) rfl rfl ?_
    show Steps p.tables e below (T10.setTop (mkF m 44 #[.val (.ref a1), .val (.ref a2)] [(.ref a2), (.ref w9)])) _
    refine st12 _ ?_
    show Steps p.tables e below (T12.setTop (mkF m 47 #[.val (.ref a1), .val (.ref a2)] [(.ref w11), (.ref w9)])) _
    refine st13.trans ?_
    show Steps p.tables e below (T13.setTop (mkF m 50 #[.val (.ref a1), .val (.ref a2)] [(.int r13)])) _
    refine XS.ifYes X13.here hx rfl (pc0 := 50) (pc' := 57) rfl (hb hby d1_50) rfl ((if0 _ _).trans (teq hx3).1) (by decide) (by decide) ?_
    show Steps p.tables e below (T13.setTop (mkF m 57 #[.val (.ref a1), .val (.ref a2)] [])) _
    refine XS.iconst X13.here hx rfl (hb hby d1_57) ?_
    show Steps p.tables e below (T13.setTop (mkF m 58 #[.val (.ref a1), .val (.ref a2)] [(.int (0 : Int32))])) _
    exact retN X13 hx (t := .boolean) Bd.returns (by simp) (hb hby d1_58) hr
  · show Q1_1b_fftffft Z a1 a2 w3 w5 w9 w11 r7 r8 r13 h0 n0 _ T13.heap _
    exact ⟨rfl, N13, e13⟩
def P1b (Z : State) (h0 : Heap) (a1 : Addr) (a2 : Addr) (r : Option Value) : Prop := ((a2 = a1) ∧ r = some (.int (1 : Int32))) ∨ (∃ (w3 : Addr), ∃ (w5 : Addr), (Sta Z h0 "com/example/indexwright/indexwright/sql/ColumnType" "DOUBLE" "Lcom/example/indexwright/indexwright/sql/ColumnType;" (.ref w3)) ∧ (Sta Z h0 "com/example/indexwright/indexwright/sql/ColumnType" "BIGINT" "Lcom/example/indexwright/indexwright/sql/ColumnType;" (.ref w5)) ∧ (¬ (a2 = a1)) ∧ (a1 = w3) ∧ (a2 = w5) ∧ r = some (.int (1 : Int32))) ∨ (∃ (w3 : Addr), ∃ (r5 : Int32), (Sta Z h0 "com/example/indexwright/indexwright/sql/ColumnType" "DOUBLE" "Lcom/example/indexwright/indexwright/sql/ColumnType;" (.ref w3)) ∧ (Exa Z h0 a1 "com/example/indexwright/indexwright/sql/ColumnType") ∧ (¬ (a2 = a1)) ∧ (¬ (a1 = w3)) ∧ (P2 Z h0 a1 (some (.int r5))) ∧ (r5 = (0 : Int32)) ∧ r = some (.int (0 : Int32))) ∨ (∃ (w3 : Addr), ∃ (w5 : Addr), ∃ (r7 : Int32), (Sta Z h0 "com/example/indexwright/indexwright/sql/ColumnType" "DOUBLE" "Lcom/example/indexwright/indexwright/sql/ColumnType;" (.ref w3)) ∧ (Sta Z h0 "com/example/indexwright/indexwright/sql/ColumnType" "BIGINT" "Lcom/example/indexwright/indexwright/sql/ColumnType;" (.ref w5)) ∧ (Exa Z h0 a1 "com/example/indexwright/indexwright/sql/ColumnType") ∧ (¬ (a2 = a1)) ∧ (a1 = w3) ∧ (¬ (a2 = w5)) ∧ (P2 Z h0 a1 (some (.int r7))) ∧ (r7 = (0 : Int32)) ∧ r = some (.int (0 : Int32))) ∨ (∃ (w3 : Addr), ∃ (r5 : Int32), ∃ (r6 : Int32), (Sta Z h0 "com/example/indexwright/indexwright/sql/ColumnType" "DOUBLE" "Lcom/example/indexwright/indexwright/sql/ColumnType;" (.ref w3)) ∧ (Exa Z h0 a1 "com/example/indexwright/indexwright/sql/ColumnType") ∧ (Exa Z h0 a2 "com/example/indexwright/indexwright/sql/ColumnType") ∧ (¬ (a2 = a1)) ∧ (¬ (a1 = w3)) ∧ (P2 Z h0 a1 (some (.int r5))) ∧ (P2 Z h0 a2 (some (.int r6))) ∧ (¬ (r5 = (0 : Int32))) ∧ (r6 = (0 : Int32)) ∧ r = some (.int (0 : Int32))) ∨ (∃ (w3 : Addr), ∃ (w5 : Addr), ∃ (r7 : Int32), ∃ (r8 : Int32), (Sta Z h0 "com/example/indexwright/indexwright/sql/ColumnType" "DOUBLE" "Lcom/example/indexwright/indexwright/sql/ColumnType;" (.ref w3)) ∧ (Sta Z h0 "com/example/indexwright/indexwright/sql/ColumnType" "BIGINT" "Lcom/example/indexwright/indexwright/sql/ColumnType;" (.ref w5)) ∧ (Exa Z h0 a1 "com/example/indexwright/indexwright/sql/ColumnType") ∧ (Exa Z h0 a2 "com/example/indexwright/indexwright/sql/ColumnType") ∧ (¬ (a2 = a1)) ∧ (a1 = w3) ∧ (¬ (a2 = w5)) ∧ (P2 Z h0 a1 (some (.int r7))) ∧ (P2 Z h0 a2 (some (.int r8))) ∧ (¬ (r7 = (0 : Int32))) ∧ (r8 = (0 : Int32)) ∧ r = some (.int (0 : Int32))) ∨ (∃ (w3 : Addr), ∃ (w7 : Addr), ∃ (w9 : Addr), ∃ (r5 : Int32), ∃ (r6 : Int32), ∃ (r11 : Int32), (Sta Z h0 "com/example/indexwright/indexwright/sql/ColumnType" "DOUBLE" "Lcom/example/indexwright/indexwright/sql/ColumnType;" (.ref w3)) ∧ (Exa Z h0 a1 "com/example/indexwright/indexwright/sql/ColumnType") ∧ (Exa Z h0 a2 "com/example/indexwright/indexwright/sql/ColumnType") ∧ (Fld Z h0 a1 "com/example/indexwright/indexwright/sql/ColumnType" "element" "Lcom/example/indexwright/indexwright/sql/ColumnType;" (.ref w7)) ∧ (Fld Z h0 a2 "com/example/indexwright/indexwright/sql/ColumnType" "element" "Lcom/example/indexwright/indexwright/sql/ColumnType;" (.ref w9)) ∧ (Exa Z h0 w7 "com/example/indexwright/indexwright/sql/ColumnType") ∧ (¬ (a2 = a1)) ∧ (¬ (a1 = w3)) ∧ (P2 Z h0 a1 (some (.int r5))) ∧ (P2 Z h0 a2 (some (.int r6))) ∧ (P1a Z h0 w7 w9 (some (.int r11))) ∧ (¬ (r5 = (0 : Int32))) ∧ (¬ (r6 = (0 : Int32))) ∧ (¬ (r11 = (0 : Int32))) ∧ r = some (.int (1 : Int32))) ∨ (∃ (w3 : Addr), ∃ (w7 : Addr), ∃ (w9 : Addr), ∃ (r5 : Int32), ∃ (r6 : Int32), ∃ (r11 : Int32), (Sta Z h0 "com/example/indexwright/indexwright/sql/ColumnType" "DOUBLE" "Lcom/example/indexwright/indexwright/sql/ColumnType;" (.ref w3)) ∧ (Exa Z h0 a1 "com/example/indexwright/indexwright/sql/ColumnType") ∧ (Exa Z h0 a2 "com/example/indexwright/indexwright/sql/ColumnType") ∧ (Fld Z h0 a1 "com/example/indexwright/indexwright/sql/ColumnType" "element" "Lcom/example/indexwright/indexwright/sql/ColumnType;" (.ref w7)) ∧ (Fld Z h0 a2 "com/example/indexwright/indexwright/sql/ColumnType" "element" "Lcom/example/indexwright/indexwright/sql/ColumnType;" (.ref w9)) ∧ (Exa Z h0 w7 "com/example/indexwright/indexwright/sql/ColumnType") ∧ (¬ (a2 = a1)) ∧ (¬ (a1 = w3)) ∧ (P2 Z h0 a1 (some (.int r5))) ∧ (P2 Z h0 a2 (some (.int r6))) ∧ (P1a Z h0 w7 w9 (some (.int r11))) ∧ (¬ (r5 = (0 : Int32))) ∧ (¬ (r6 = (0 : Int32))) ∧ (r11 = (0 : Int32)) ∧ r = some (.int (0 : Int32))) ∨ (∃ (w3 : Addr), ∃ (w5 : Addr), ∃ (w9 : Addr), ∃ (w11 : Addr), ∃ (r7 : Int32), ∃ (r8 : Int32), ∃ (r13 : Int32), (Sta Z h0 "com/example/indexwright/indexwright/sql/ColumnType" "DOUBLE" "Lcom/example/indexwright/indexwright/sql/ColumnType;" (.ref w3)) ∧ (Sta Z h0 "com/example/indexwright/indexwright/sql/ColumnType" "BIGINT" "Lcom/example/indexwright/indexwright/sql/ColumnType;" (.ref w5)) ∧ (Exa Z h0 a1 "com/example/indexwright/indexwright/sql/ColumnType") ∧ (Exa Z h0 a2 "com/example/indexwright/indexwright/sql/ColumnType") ∧ (Fld Z h0 a1 "com/example/indexwright/indexwright/sql/ColumnType" "element" "Lcom/example/indexwright/indexwright/sql/ColumnType;" (.ref w9)) ∧ (Fld Z h0 a2 "com/example/indexwright/indexwright/sql/ColumnType" "element" "Lcom/example/indexwright/indexwright/sql/ColumnType;" (.ref w11)) ∧ (Exa Z h0 w9 "com/example/indexwright/indexwright/sql/ColumnType") ∧ (¬ (a2 = a1)) ∧ (a1 = w3) ∧ (¬ (a2 = w5)) ∧ (P2 Z h0 a1 (some (.int r7))) ∧ (P2 Z h0 a2 (some (.int r8))) ∧ (P1a Z h0 w9 w11 (some (.int r13))) ∧ (¬ (r7 = (0 : Int32))) ∧ (¬ (r8 = (0 : Int32))) ∧ (¬ (r13 = (0 : Int32))) ∧ r = some (.int (1 : Int32))) ∨ (∃ (w3 : Addr), ∃ (w5 : Addr), ∃ (w9 : Addr), ∃ (w11 : Addr), ∃ (r7 : Int32), ∃ (r8 : Int32), ∃ (r13 : Int32), (Sta Z h0 "com/example/indexwright/indexwright/sql/ColumnType" "DOUBLE" "Lcom/example/indexwright/indexwright/sql/ColumnType;" (.ref w3)) ∧ (Sta Z h0 "com/example/indexwright/indexwright/sql/ColumnType" "BIGINT" "Lcom/example/indexwright/indexwright/sql/ColumnType;" (.ref w5)) ∧ (Exa Z h0 a1 "com/example/indexwright/indexwright/sql/ColumnType") ∧ (Exa Z h0 a2 "com/example/indexwright/indexwright/sql/ColumnType") ∧ (Fld Z h0 a1 "com/example/indexwright/indexwright/sql/ColumnType" "element" "Lcom/example/indexwright/indexwright/sql/ColumnType;" (.ref w9)) ∧ (Fld Z h0 a2 "com/example/indexwright/indexwright/sql/ColumnType" "element" "Lcom/example/indexwright/indexwright/sql/ColumnType;" (.ref w11)) ∧ (Exa Z h0 w9 "com/example/indexwright/indexwright/sql/ColumnType") ∧ (¬ (a2 = a1)) ∧ (a1 = w3) ∧ (¬ (a2 = w5)) ∧ (P2 Z h0 a1 (some (.int r7))) ∧ (P2 Z h0 a2 (some (.int r8))) ∧ (P1a Z h0 w9 w11 (some (.int r13))) ∧ (¬ (r7 = (0 : Int32))) ∧ (¬ (r8 = (0 : Int32))) ∧ (r13 = (0 : Int32)) ∧ r = some (.int (0 : Int32)))
set_option maxRecDepth 65536 in
set_option maxHeartbeats 40000000 in
theorem own_1b (l : Launch) (Z : State) (a0 : Array Value) (hw : ∀ d ∈ tables_1, d.before a0 Z = true) (ws : List Jvm.Cond) (a1 : Addr) (a2 : Addr) (r : Option Value) (h0 : Heap) (n0 : Nat) (Z0 : n0 ≤ h0.size) (hp : P1b Z h0 a1 a2 r) :
    MetFree l (⟨"com/example/indexwright/indexwright/sql/ColumnType", "holds", "(Lcom/example/indexwright/indexwright/sql/ColumnType;)Z"⟩ : MethodName) (head1 (Jvm.Cond.code (⟨"com/example/indexwright/indexwright/sql/ColumnType", "holds", "(Lcom/example/indexwright/indexwright/sql/ColumnType;)Z"⟩ : MethodName) prog_54_method_14_code 2 (some .boolean) :: ws) ({ frames := 2, cells := 0, slots := 0, locals := 25 } : Room)) (fun a U => a = #[(.ref a1), (.ref a2)] ∧ Z.Warmed39 U.vm ∧ U.heap = h0) (fun _ _ _ _ _ => True) (fun _ U o U' => ∃ v L, o = .returned v ∧ OwnQ r h0 n0 v U'.heap L ∧ FrameEnd U o U' L ({ frames := 2, cells := 0, slots := 0, locals := 25 } : Room).cells ({ frames := 2, cells := 0, slots := 0, locals := 25 } : Room).slots) := by
  rcases hp with ⟨k0, rfl⟩ | ⟨w3, w5, k0, k1, k2, k3, k4, rfl⟩ | ⟨w3, r5, k0, k1, k2, k3, k4, k5, rfl⟩ | ⟨w3, w5, r7, k0, k1, k2, k3, k4, k5, k6, k7, rfl⟩ | ⟨w3, r5, r6, k0, k1, k2, k3, k4, k5, k6, k7, k8, rfl⟩ | ⟨w3, w5, r7, r8, k0, k1, k2, k3, k4, k5, k6, k7, k8, k9, k10, rfl⟩ | ⟨w3, w7, w9, r5, r6, r11, k0, k1, k2, k3, k4, k5, k6, k7, k8, k9, k10, k11, k12, k13, rfl⟩ | ⟨w3, w7, w9, r5, r6, r11, k0, k1, k2, k3, k4, k5, k6, k7, k8, k9, k10, k11, k12, k13, rfl⟩ | ⟨w3, w5, w9, w11, r7, r8, r13, k0, k1, k2, k3, k4, k5, k6, k7, k8, k9, k10, k11, k12, k13, k14, k15, rfl⟩ | ⟨w3, w5, w9, w11, r7, r8, r13, k0, k1, k2, k3, k4, k5, k6, k7, k8, k9, k10, k11, k12, k13, k14, k15, rfl⟩
  · exact rm1_1b_t l Z a0 hw ws a1 a2 h0 n0 Z0 k0
  · exact rm1_1b_fff l Z a0 hw ws a1 a2 w3 w5 h0 n0 Z0 k0 k1 k2 k3 k4
  · exact rm1_1b_ftt l Z a0 hw ws a1 a2 w3 r5 h0 n0 Z0 k0 k1 k2 k3 k4 k5
  · exact rm1_1b_fftt l Z a0 hw ws a1 a2 w3 w5 r7 h0 n0 Z0 k0 k1 k2 k3 k4 k5 k6 k7
  · exact rm1_1b_ftfft l Z a0 hw ws a1 a2 w3 r5 r6 h0 n0 Z0 k0 k1 k2 k3 k4 k5 k6 k7 k8
  · exact rm1_1b_fftfft l Z a0 hw ws a1 a2 w3 w5 r7 r8 h0 n0 Z0 k0 k1 k2 k3 k4 k5 k6 k7 k8 k9 k10
  · exact rm1_1b_ftffff l Z a0 hw ws a1 a2 w3 w7 w9 r5 r6 r11 h0 n0 Z0 k0 k1 k2 k3 k4 k5 k6 k7 k8 k9 k10 k11 k12 k13
  · exact rm1_1b_ftffft l Z a0 hw ws a1 a2 w3 w7 w9 r5 r6 r11 h0 n0 Z0 k0 k1 k2 k3 k4 k5 k6 k7 k8 k9 k10 k11 k12 k13
  · exact rm1_1b_fftffff l Z a0 hw ws a1 a2 w3 w5 w9 w11 r7 r8 r13 h0 n0 Z0 k0 k1 k2 k3 k4 k5 k6 k7 k8 k9 k10 k11 k12 k13 k14 k15
  · exact rm1_1b_fftffft l Z a0 hw ws a1 a2 w3 w5 w9 w11 r7 r8 r13 h0 n0 Z0 k0 k1 k2 k3 k4 k5 k6 k7 k8 k9 k10 k11 k12 k13 k14 k15
theorem P1b_keep {Z : State} {h0 h : Heap} {a1 : Addr} {a2 : Addr} {r : Option Value} (K : Keep h0 h []) (hp : P1b Z h0 a1 a2 r) : P1b Z h a1 a2 r := by
  rcases hp with ⟨k0, rfl⟩ | ⟨w3, w5, k0, k1, k2, k3, k4, rfl⟩ | ⟨w3, r5, k0, k1, k2, k3, k4, k5, rfl⟩ | ⟨w3, w5, r7, k0, k1, k2, k3, k4, k5, k6, k7, rfl⟩ | ⟨w3, r5, r6, k0, k1, k2, k3, k4, k5, k6, k7, k8, rfl⟩ | ⟨w3, w5, r7, r8, k0, k1, k2, k3, k4, k5, k6, k7, k8, k9, k10, rfl⟩ | ⟨w3, w7, w9, r5, r6, r11, k0, k1, k2, k3, k4, k5, k6, k7, k8, k9, k10, k11, k12, k13, rfl⟩ | ⟨w3, w7, w9, r5, r6, r11, k0, k1, k2, k3, k4, k5, k6, k7, k8, k9, k10, k11, k12, k13, rfl⟩ | ⟨w3, w5, w9, w11, r7, r8, r13, k0, k1, k2, k3, k4, k5, k6, k7, k8, k9, k10, k11, k12, k13, k14, k15, rfl⟩ | ⟨w3, w5, w9, w11, r7, r8, r13, k0, k1, k2, k3, k4, k5, k6, k7, k8, k9, k10, k11, k12, k13, k14, k15, rfl⟩
  · exact (Or.inl ⟨k0, rfl⟩)
  · exact (Or.inr (Or.inl ⟨w3, w5, (own_stak k0 K), (own_stak k1 K), k2, k3, k4, rfl⟩))
  · exact (Or.inr (Or.inr (Or.inl ⟨w3, r5, (own_stak k0 K), (k1.keep K), k2, k3, (P2_keep K k4), k5, rfl⟩)))
  · exact (Or.inr (Or.inr (Or.inr (Or.inl ⟨w3, w5, r7, (own_stak k0 K), (own_stak k1 K), (k2.keep K), k3, k4, k5, (P2_keep K k6), k7, rfl⟩))))
  · exact (Or.inr (Or.inr (Or.inr (Or.inr (Or.inl ⟨w3, r5, r6, (own_stak k0 K), (k1.keep K), (k2.keep K), k3, k4, (P2_keep K k5), (P2_keep K k6), k7, k8, rfl⟩)))))
  · exact (Or.inr (Or.inr (Or.inr (Or.inr (Or.inr (Or.inl ⟨w3, w5, r7, r8, (own_stak k0 K), (own_stak k1 K), (k2.keep K), (k3.keep K), k4, k5, k6, (P2_keep K k7), (P2_keep K k8), k9, k10, rfl⟩))))))
  · exact (Or.inr (Or.inr (Or.inr (Or.inr (Or.inr (Or.inr (Or.inl ⟨w3, w7, w9, r5, r6, r11, (own_stak k0 K), (k1.keep K), (k2.keep K), (k3.keep K nin0), (k4.keep K nin0), (k5.keep K), k6, k7, (P2_keep K k8), (P2_keep K k9), (P1a_keep K k10), k11, k12, k13, rfl⟩)))))))
  · exact (Or.inr (Or.inr (Or.inr (Or.inr (Or.inr (Or.inr (Or.inr (Or.inl ⟨w3, w7, w9, r5, r6, r11, (own_stak k0 K), (k1.keep K), (k2.keep K), (k3.keep K nin0), (k4.keep K nin0), (k5.keep K), k6, k7, (P2_keep K k8), (P2_keep K k9), (P1a_keep K k10), k11, k12, k13, rfl⟩))))))))
  · exact (Or.inr (Or.inr (Or.inr (Or.inr (Or.inr (Or.inr (Or.inr (Or.inr (Or.inl ⟨w3, w5, w9, w11, r7, r8, r13, (own_stak k0 K), (own_stak k1 K), (k2.keep K), (k3.keep K), (k4.keep K nin0), (k5.keep K nin0), (k6.keep K), k7, k8, k9, (P2_keep K k10), (P2_keep K k11), (P1a_keep K k12), k13, k14, k15, rfl⟩)))))))))
  · exact (Or.inr (Or.inr (Or.inr (Or.inr (Or.inr (Or.inr (Or.inr (Or.inr (Or.inr ⟨w3, w5, w9, w11, r7, r8, r13, (own_stak k0 K), (own_stak k1 K), (k2.keep K), (k3.keep K), (k4.keep K nin0), (k5.keep K nin0), (k6.keep K), k7, k8, k9, (P2_keep K k10), (P2_keep K k11), (P1a_keep K k12), k13, k14, k15, rfl⟩)))))))))
theorem ef_1n (m : MethodId) (x0 : Addr) : entryFrame m #[(.ref x0), .null] 2 = mkF m 0 #[.val (.ref x0), .val .null] [] := by first | (simp [entryFrame, mkF, argsToLocals, Value.category]; done) | rfl
def Q1_1n_ftt (Z : State) (a1 : Addr) (w2 : Addr) (r4 : Int32) (h0 : Heap) (n0 : Nat) (v : Option Value) (h : Heap) (L : List Loc) : Prop := v = some (.int (0 : Int32)) ∧ Fr n0 L ∧ h = h0
set_option maxRecDepth 65536 in
set_option maxHeartbeats 40000000 in
theorem rm1_1n_ftt (l : Launch) (Z : State) (a0 : Array Value) (hw : ∀ d ∈ tables_1, d.before a0 Z = true) (ws : List Jvm.Cond) (a1 : Addr) (w2 : Addr) (r4 : Int32) (h0 : Heap) (n0 : Nat) (Z0 : n0 ≤ h0.size) (S_DOUBLE : Sta Z h0 "com/example/indexwright/indexwright/sql/ColumnType" "DOUBLE" "Lcom/example/indexwright/indexwright/sql/ColumnType;" (.ref w2)) (E_a1 : Exa Z h0 a1 "com/example/indexwright/indexwright/sql/ColumnType") (ha9 : ¬ (a1 = w2)) (hP4 : P2 Z h0 a1 (some (.int r4))) (hx1 : r4 = (0 : Int32)) :
    MetFree l (⟨"com/example/indexwright/indexwright/sql/ColumnType", "holds", "(Lcom/example/indexwright/indexwright/sql/ColumnType;)Z"⟩ : MethodName) (head1 (Jvm.Cond.code (⟨"com/example/indexwright/indexwright/sql/ColumnType", "holds", "(Lcom/example/indexwright/indexwright/sql/ColumnType;)Z"⟩ : MethodName) prog_54_method_14_code 2 (some .boolean) :: ws) ({ frames := 2, cells := 0, slots := 0, locals := 25 } : Room)) (fun a U => a = #[(.ref a1), .null] ∧ Z.Warmed39 U.vm ∧ U.heap = h0) (fun _ _ _ _ _ => True) (fun _ U o U' => ∃ v L, o = .returned v ∧ Q1_1n_ftt Z a1 w2 r4 h0 n0 v U'.heap L ∧ FrameEnd U o U' L ({ frames := 2, cells := 0, slots := 0, locals := 25 } : Room).cells ({ frames := 2, cells := 0, slots := 0, locals := 25 } : Room).slots) := by
  refine MetFree.of_bodySF (plainFor_of_name pn_1) hisR ?_
  intro p e s m args below meth c s₁ Bd hml0 hP hK
  obtain ⟨rfl, hZ, hh⟩ := hP
  have hx := Bd.exec
  have hby := Bd.bytes
  have hml : c.maxLocals = 2 := hml0
  have hown : s.vm.findClass "com/example/indexwright/indexwright/sql/ColumnType" = some m.cls := findClass_of_methodNamed Bd.named
  have hnm := (name_of_methodNamed Bd.named Bd.method).1
  have X0 : Stand p l e ({ frames := 2, cells := 0, slots := 0, locals := 25 } : Room) s m #[(.ref a1), .null] below meth c s₁ [] 0 0 := Stand.of_body Bd
  have e0 : s₁.heap = h0 := by rw [← hh, Bd.state]; rfl
  have N0 := Fr.nil n0
  have pre0 : ∀ t, Steps p.tables e below (s₁.setTop (mkF m 0 #[.val (.ref a1), .val .null] [])) t → Steps p.tables e below (s₁.setTop (entryFrame m #[(.ref a1), .null] 2)) t := fun t k => castTop (ef_1n m a1) k
  -- 3. LAWS
  obtain ⟨T3, X3, e3, st3⟩ := getS2 X0 hx hZ hown (host := "") (Or.inl (hw _ (List.mem_of_getElem? (i := 22) rfl))) Via.refl e0 S_DOUBLE (g := (mkF m 6 #[.val (.ref a1), .val .null] [(.ref a1)])) rfl (hb hby d1_6)
  -- pc 22: com/example/indexwright/indexwright/sql/ColumnType.isArray by the contract of the body that the receiver's class selects, rm2
  obtain ⟨cq4, kq4, q4a, q4b, q4c⟩ := isOf hZ e3 E_a1
  obtain ⟨_, _, ⟨T4, L4, k4, n4⟩, -, X4, ⟨Lc4, hQ4, l4, y4, z4⟩, st4⟩ := X3.virtualBack hx (y := (⟨"com/example/indexwright/indexwright/sql/ColumnType", "isArray", "()Z"⟩ : MethodName)) (z := (⟨"com/example/indexwright/indexwright/sql/ColumnType", "isArray", "()Z"⟩ : MethodName)) hown (mvT hZ (hw _ (List.mem_of_getElem? (i := 23) rfl))) (mvT hZ (hw _ (List.mem_of_getElem? (i := 24) rfl))) (notFace_of_selects (args := #[]) (mvT hZ (hw _ (List.mem_of_getElem? (i := 26) rfl)))) (mvT hZ (hw _ (List.mem_of_getElem? (i := 26) rfl))) (mvT hZ (hw _ (List.mem_of_getElem? (i := 25) rfl))) (by decide) (backOf (W := 0) (own_2 l Z a0 hw [] a1 (some (.int r4)) h0 n0 Z0 hP4) hZ (hw _ (List.mem_of_getElem? (i := 27) rfl)) (hw _ (List.mem_of_getElem? (i := 3) rfl)) (by decide) (by decide)) q4a q4c (g := (mkF m 22 #[.val (.ref a1), .val .null] [(.ref a1)])) rfl (by rw [hml]; rfl) (Steps.refl _) (argsL := []) (rest := []) (lenOf pd_1_1 rfl) rfl (by show 2 * 0 + _ ≤ _; exact Nat.le_of_eq rfl) (hb hby d1_22) (fun _ _ => ⟨rfl, e3, (by decide : 0 + 0 ≤ _), (by decide : 0 + 0 ≤ _)⟩)
  dsimp only [Pt.U, Pt.locs, Pt.cells, Pt.slots] at X4 l4 y4 z4 st4 hQ4
  subst l4 y4 z4
  obtain ⟨rfl, N4q, e4⟩ := hQ4      -- what it returned, that it wrote nothing old, and the rest of your Q2
  have N4 := Fr.app N0 N4q
  obtain ⟨fs, hr, hrun, hended, hW, hsame⟩ := X4.leave (v := some (.int (0 : Int32))) (fun h => by rw [Bd.returns] at h; cases h)
  refine ⟨_, _, pre0 _ ?_, hrun, hended, _, _, rfl, ?_, ⟨_, rfl⟩, hW, hsame.mono (by decide) (by decide)⟩
  -- 4. STEPS
  · show Steps p.tables e below (s₁.setTop (mkF m 0 #[.val (.ref a1), .val .null] [])) _
    refine XS.aloadN X0.here hx rfl (hb hby d1_0) rfl rfl ?_
    show Steps p.tables e below (s₁.setTop (mkF m 1 #[.val (.ref a1), .val .null] [.null])) _
    refine XS.aloadN X0.here hx rfl (hb hby d1_1) rfl rfl ?_
    show Steps p.tables e below (s₁.setTop (mkF m 2 #[.val (.ref a1), .val .null] [(.ref a1), .null])) _
    refine Jvm.RoadKit.acmp (g := (mkF m 2 #[.val (.ref a1), .val .null] [(.ref a1), .null])) X0 hx rfl rfl rfl (pc0 := 2) (pc' := 5) (same := false) rfl (hb hby d1_2) rfl (decide_eq_false nofun) (by decide) (by decide) ?_
    show Steps p.tables e below (s₁.setTop (mkF m 5 #[.val (.ref a1), .val .null] [])) _
    refine XS.aloadN X0.here hx rfl (hb hby d1_5) rfl rfl ?_
    show Steps p.tables e below (s₁.setTop (mkF m 6 #[.val (.ref a1), .val .null] [(.ref a1)])) _
    refine st3 _ ?_
    show Steps p.tables e below (T3.setTop (mkF m 9 #[.val (.ref a1), .val .null] [(.ref w2), (.ref a1)])) _
    refine Jvm.RoadKit.acmp (g := (mkF m 9 #[.val (.ref a1), .val .null] [(.ref w2), (.ref a1)])) X3 hx rfl rfl rfl (pc0 := 9) (pc' := 21) (same := false) rfl (hb hby d1_9) rfl (decide_eq_false fun q => ha9 (Value.ref.inj q)) (by decide) (by decide) ?_
    show Steps p.tables e below (T3.setTop (mkF m 21 #[.val (.ref a1), .val .null] [])) _
    refine XS.aloadN X3.here hx rfl (hb hby d1_21) rfl rfl ?_
    show Steps p.tables e below (T3.setTop (mkF m 22 #[.val (.ref a1), .val .null] [(.ref a1)])) _
    refine st4.trans ?_
    show Steps p.tables e below (T4.setTop (mkF m 25 #[.val (.ref a1), .val .null] [(.int r4)])) _
    refine XS.ifYes X4.here hx rfl (pc0 := 25) (pc' := 57) rfl (hb hby d1_25) rfl ((if0 _ _).trans (teq hx1).1) (by decide) (by decide) ?_
    show Steps p.tables e below (T4.setTop (mkF m 57 #[.val (.ref a1), .val .null] [])) _
    refine XS.iconst X4.here hx rfl (hb hby d1_57) ?_
    show Steps p.tables e below (T4.setTop (mkF m 58 #[.val (.ref a1), .val .null] [(.int (0 : Int32))])) _
    exact retN X4 hx (t := .boolean) Bd.returns (by simp) (hb hby d1_58) hr
  · show Q1_1n_ftt Z a1 w2 r4 h0 n0 _ T4.heap _
    exact ⟨rfl, N4, e4⟩
def Q1_1n_fftt (Z : State) (a1 : Addr) (w2 : Addr) (w4 : Addr) (r6 : Int32) (h0 : Heap) (n0 : Nat) (v : Option Value) (h : Heap) (L : List Loc) : Prop := v = some (.int (0 : Int32)) ∧ Fr n0 L ∧ h = h0
set_option maxRecDepth 65536 in
set_option maxHeartbeats 40000000 in
theorem rm1_1n_fftt (l : Launch) (Z : State) (a0 : Array Value) (hw : ∀ d ∈ tables_1, d.before a0 Z = true) (ws : List Jvm.Cond) (a1 : Addr) (w2 : Addr) (w4 : Addr) (r6 : Int32) (h0 : Heap) (n0 : Nat) (Z0 : n0 ≤ h0.size) (S_DOUBLE : Sta Z h0 "com/example/indexwright/indexwright/sql/ColumnType" "DOUBLE" "Lcom/example/indexwright/indexwright/sql/ColumnType;" (.ref w2)) (S_BIGINT : Sta Z h0 "com/example/indexwright/indexwright/sql/ColumnType" "BIGINT" "Lcom/example/indexwright/indexwright/sql/ColumnType;" (.ref w4)) (E_a1 : Exa Z h0 a1 "com/example/indexwright/indexwright/sql/ColumnType") (ha9 : a1 = w2) (hP6 : P2 Z h0 a1 (some (.int r6))) (hx1 : r6 = (0 : Int32)) :
    MetFree l (⟨"com/example/indexwright/indexwright/sql/ColumnType", "holds", "(Lcom/example/indexwright/indexwright/sql/ColumnType;)Z"⟩ : MethodName) (head1 (Jvm.Cond.code (⟨"com/example/indexwright/indexwright/sql/ColumnType", "holds", "(Lcom/example/indexwright/indexwright/sql/ColumnType;)Z"⟩ : MethodName) prog_54_method_14_code 2 (some .boolean) :: ws) ({ frames := 2, cells := 0, slots := 0, locals := 25 } : Room)) (fun a U => a = #[(.ref a1), .null] ∧ Z.Warmed39 U.vm ∧ U.heap = h0) (fun _ _ _ _ _ => True) (fun _ U o U' => ∃ v L, o = .returned v ∧ Q1_1n_fftt Z a1 w2 w4 r6 h0 n0 v U'.heap L ∧ FrameEnd U o U' L ({ frames := 2, cells := 0, slots := 0, locals := 25 } : Room).cells ({ frames := 2, cells := 0, slots := 0, locals := 25 } : Room).slots) := by
  refine MetFree.of_bodySF (plainFor_of_name pn_1) hisR ?_
  intro p e s m args below meth c s₁ Bd hml0 hP hK
  obtain ⟨rfl, hZ, hh⟩ := hP
  have hx := Bd.exec
  have hby := Bd.bytes
  have hml : c.maxLocals = 2 := hml0
  have hown : s.vm.findClass "com/example/indexwright/indexwright/sql/ColumnType" = some m.cls := findClass_of_methodNamed Bd.named
  have hnm := (name_of_methodNamed Bd.named Bd.method).1
  have X0 : Stand p l e ({ frames := 2, cells := 0, slots := 0, locals := 25 } : Room) s m #[(.ref a1), .null] below meth c s₁ [] 0 0 := Stand.of_body Bd
  have e0 : s₁.heap = h0 := by rw [← hh, Bd.state]; rfl
  have N0 := Fr.nil n0
  have pre0 : ∀ t, Steps p.tables e below (s₁.setTop (mkF m 0 #[.val (.ref a1), .val .null] [])) t → Steps p.tables e below (s₁.setTop (entryFrame m #[(.ref a1), .null] 2)) t := fun t k => castTop (ef_1n m a1) k
  -- 3. LAWS
  obtain ⟨T3, X3, e3, st3⟩ := getS2 X0 hx hZ hown (host := "") (Or.inl (hw _ (List.mem_of_getElem? (i := 22) rfl))) Via.refl e0 S_DOUBLE (g := (mkF m 6 #[.val (.ref a1), .val .null] [(.ref a1)])) rfl (hb hby d1_6)
  obtain ⟨T5, X5, e5, st5⟩ := getS2 X3 hx hZ hown (host := "") (Or.inl (hw _ (List.mem_of_getElem? (i := 30) rfl))) Via.refl e3 S_BIGINT (g := (mkF m 13 #[.val (.ref a1), .val .null] [.null])) rfl (hb hby d1_13)
  -- pc 22: com/example/indexwright/indexwright/sql/ColumnType.isArray by the contract of the body that the receiver's class selects, rm2
  obtain ⟨cq6, kq6, q6a, q6b, q6c⟩ := isOf hZ e5 E_a1
  obtain ⟨_, _, ⟨T6, L6, k6, n6⟩, -, X6, ⟨Lc6, hQ6, l6, y6, z6⟩, st6⟩ := X5.virtualBack hx (y := (⟨"com/example/indexwright/indexwright/sql/ColumnType", "isArray", "()Z"⟩ : MethodName)) (z := (⟨"com/example/indexwright/indexwright/sql/ColumnType", "isArray", "()Z"⟩ : MethodName)) hown (mvT hZ (hw _ (List.mem_of_getElem? (i := 23) rfl))) (mvT hZ (hw _ (List.mem_of_getElem? (i := 24) rfl))) (notFace_of_selects (args := #[]) (mvT hZ (hw _ (List.mem_of_getElem? (i := 26) rfl)))) (mvT hZ (hw _ (List.mem_of_getElem? (i := 26) rfl))) (mvT hZ (hw _ (List.mem_of_getElem? (i := 25) rfl))) (by decide) (backOf (W := 0) (own_2 l Z a0 hw [] a1 (some (.int r6)) h0 n0 Z0 hP6) hZ (hw _ (List.mem_of_getElem? (i := 27) rfl)) (hw _ (List.mem_of_getElem? (i := 3) rfl)) (by decide) (by decide)) q6a q6c (g := (mkF m 22 #[.val (.ref a1), .val .null] [(.ref a1)])) rfl (by rw [hml]; rfl) (Steps.refl _) (argsL := []) (rest := []) (lenOf pd_1_1 rfl) rfl (by show 2 * 0 + _ ≤ _; exact Nat.le_of_eq rfl) (hb hby d1_22) (fun _ _ => ⟨rfl, e5, (by decide : 0 + 0 ≤ _), (by decide : 0 + 0 ≤ _)⟩)
  dsimp only [Pt.U, Pt.locs, Pt.cells, Pt.slots] at X6 l6 y6 z6 st6 hQ6
  subst l6 y6 z6
  obtain ⟨rfl, N6q, e6⟩ := hQ6      -- what it returned, that it wrote nothing old, and the rest of your Q2
  have N6 := Fr.app N0 N6q
  obtain ⟨fs, hr, hrun, hended, hW, hsame⟩ := X6.leave (v := some (.int (0 : Int32))) (fun h => by rw [Bd.returns] at h; cases h)
  refine ⟨_, _, pre0 _ ?_, hrun, hended, _, _, rfl, ?_, ⟨_, rfl⟩, hW, hsame.mono (by decide) (by decide)⟩
  -- 4. STEPS
  · show Steps p.tables e below (s₁.setTop (mkF m 0 #[.val (.ref a1), .val .null] [])) _
    refine XS.aloadN X0.here hx rfl (hb hby d1_0) rfl rfl ?_
    show Steps p.tables e below (s₁.setTop (mkF m 1 #[.val (.ref a1), .val .null] [.null])) _
    refine XS.aloadN X0.here hx rfl (hb hby d1_1) rfl rfl ?_
    show Steps p.tables e below (s₁.setTop (mkF m 2 #[.val (.ref a1), .val .null] [(.ref a1), .null])) _
    refine Jvm.RoadKit.acmp (g := (mkF m 2 #[.val (.ref a1), .val .null] [(.ref a1), .null])) X0 hx rfl rfl rfl (pc0 := 2) (pc' := 5) (same := false) rfl (hb hby d1_2) rfl (decide_eq_false nofun) (by decide) (by decide) ?_
    show Steps p.tables e below (s₁.setTop (mkF m 5 #[.val (.ref a1), .val .null] [])) _
    refine XS.aloadN X0.here hx rfl (hb hby d1_5) rfl rfl ?_
    show Steps p.tables e below (s₁.setTop (mkF m 6 #[.val (.ref a1), .val .null] [(.ref a1)])) _
    refine st3 _ ?_
    show Steps p.tables e below (T3.setTop (mkF m 9 #[.val (.ref a1), .val .null] [(.ref w2), (.ref a1)])) _
    refine Jvm.RoadKit.acmp (g := (mkF m 9 #[.val (.ref a1), .val .null] [(.ref w2), (.ref a1)])) X3 hx rfl rfl rfl (pc0 := 9) (pc' := 12) (same := true) rfl (hb hby d1_9) rfl (decide_eq_true (congrArg Value.ref ha9)) (by decide) (by decide) ?_
    show Steps p.tables e below (T3.setTop (mkF m 12 #[.val (.ref a1), .val .null] [])) _
    refine XS.aloadN X3.here hx rfl (hb hby d1_12) rfl rfl ?_
    show Steps p.tables e below (T3.setTop (mkF m 13 #[.val (.ref a1), .val .null] [.null])) _
    refine st5 _ ?_
    show Steps p.tables e below (T5.setTop (mkF m 16 #[.val (.ref a1), .val .null] [(.ref w4), .null])) _
    refine Jvm.RoadKit.acmp (g := (mkF m 16 #[.val (.ref a1), .val .null] [(.ref w4), .null])) X5 hx rfl rfl rfl (pc0 := 16) (pc' := 21) (same := false) rfl (hb hby d1_16) rfl (decide_eq_false nofun) (by decide) (by decide) ?_
    show Steps p.tables e below (T5.setTop (mkF m 21 #[.val (.ref a1), .val .null] [])) _
    refine XS.aloadN X5.here hx rfl (hb hby d1_21) rfl rfl ?_
    show Steps p.tables e below (T5.setTop (mkF m 22 #[.val (.ref a1), .val .null] [(.ref a1)])) _
    refine st6.trans ?_
    show Steps p.tables e below (T6.setTop (mkF m 25 #[.val (.ref a1), .val .null] [(.int r6)])) _
    refine XS.ifYes X6.here hx rfl (pc0 := 25) (pc' := 57) rfl (hb hby d1_25) rfl ((if0 _ _).trans (teq hx1).1) (by decide) (by decide) ?_
    show Steps p.tables e below (T6.setTop (mkF m 57 #[.val (.ref a1), .val .null] [])) _
    refine XS.iconst X6.here hx rfl (hb hby d1_57) ?_
    show Steps p.tables e below (T6.setTop (mkF m 58 #[.val (.ref a1), .val .null] [(.int (0 : Int32))])) _
    exact retN X6 hx (t := .boolean) Bd.returns (by simp) (hb hby d1_58) hr
  · show Q1_1n_fftt Z a1 w2 w4 r6 h0 n0 _ T6.heap _
    exact ⟨rfl, N6, e6⟩
def Q1_1n_ftft (Z : State) (a1 : Addr) (w2 : Addr) (r4 : Int32) (h0 : Heap) (n0 : Nat) (v : Option Value) (h : Heap) (L : List Loc) : Prop := v = some (.int (0 : Int32)) ∧ Fr n0 L ∧ h = h0
set_option maxRecDepth 65536 in
set_option maxHeartbeats 40000000 in
theorem rm1_1n_ftft (l : Launch) (Z : State) (a0 : Array Value) (hw : ∀ d ∈ tables_1, d.before a0 Z = true) (ws : List Jvm.Cond) (a1 : Addr) (w2 : Addr) (r4 : Int32) (h0 : Heap) (n0 : Nat) (Z0 : n0 ≤ h0.size) (S_DOUBLE : Sta Z h0 "com/example/indexwright/indexwright/sql/ColumnType" "DOUBLE" "Lcom/example/indexwright/indexwright/sql/ColumnType;" (.ref w2)) (E_a1 : Exa Z h0 a1 "com/example/indexwright/indexwright/sql/ColumnType") (ha9 : ¬ (a1 = w2)) (hP4 : P2 Z h0 a1 (some (.int r4))) (hx1 : ¬ (r4 = (0 : Int32))) :
    MetFree l (⟨"com/example/indexwright/indexwright/sql/ColumnType", "holds", "(Lcom/example/indexwright/indexwright/sql/ColumnType;)Z"⟩ : MethodName) (head1 (Jvm.Cond.code (⟨"com/example/indexwright/indexwright/sql/ColumnType", "holds", "(Lcom/example/indexwright/indexwright/sql/ColumnType;)Z"⟩ : MethodName) prog_54_method_14_code 2 (some .boolean) :: ws) ({ frames := 2, cells := 0, slots := 0, locals := 25 } : Room)) (fun a U => a = #[(.ref a1), .null] ∧ Z.Warmed39 U.vm ∧ U.heap = h0) (fun _ _ _ _ _ => True) (fun _ U o U' => ∃ v L, o = .returned v ∧ Q1_1n_ftft Z a1 w2 r4 h0 n0 v U'.heap L ∧ FrameEnd U o U' L ({ frames := 2, cells := 0, slots := 0, locals := 25 } : Room).cells ({ frames := 2, cells := 0, slots := 0, locals := 25 } : Room).slots) := by
  refine MetFree.of_bodySF (plainFor_of_name pn_1) hisR ?_
  intro p e s m args below meth c s₁ Bd hml0 hP hK
  obtain ⟨rfl, hZ, hh⟩ := hP
  have hx := Bd.exec
  have hby := Bd.bytes
  have hml : c.maxLocals = 2 := hml0
  have hown : s.vm.findClass "com/example/indexwright/indexwright/sql/ColumnType" = some m.cls := findClass_of_methodNamed Bd.named
  have hnm := (name_of_methodNamed Bd.named Bd.method).1
  have X0 : Stand p l e ({ frames := 2, cells := 0, slots := 0, locals := 25 } : Room) s m #[(.ref a1), .null] below meth c s₁ [] 0 0 := Stand.of_body Bd
  have e0 : s₁.heap = h0 := by rw [← hh, Bd.state]; rfl
  have N0 := Fr.nil n0
  have pre0 : ∀ t, Steps p.tables e below (s₁.setTop (mkF m 0 #[.val (.ref a1), .val .null] [])) t → Steps p.tables e below (s₁.setTop (entryFrame m #[(.ref a1), .null] 2)) t := fun t k => castTop (ef_1n m a1) k
  -- 3. LAWS
  obtain ⟨T3, X3, e3, st3⟩ := getS2 X0 hx hZ hown (host := "") (Or.inl (hw _ (List.mem_of_getElem? (i := 22) rfl))) Via.refl e0 S_DOUBLE (g := (mkF m 6 #[.val (.ref a1), .val .null] [(.ref a1)])) rfl (hb hby d1_6)
  -- pc 22: com/example/indexwright/indexwright/sql/ColumnType.isArray by the contract of the body that the receiver's class selects, rm2
  obtain ⟨cq4, kq4, q4a, q4b, q4c⟩ := isOf hZ e3 E_a1
  obtain ⟨_, _, ⟨T4, L4, k4, n4⟩, -, X4, ⟨Lc4, hQ4, l4, y4, z4⟩, st4⟩ := X3.virtualBack hx (y := (⟨"com/example/indexwright/indexwright/sql/ColumnType", "isArray", "()Z"⟩ : MethodName)) (z := (⟨"com/example/indexwright/indexwright/sql/ColumnType", "isArray", "()Z"⟩ : MethodName)) hown (mvT hZ (hw _ (List.mem_of_getElem? (i := 23) rfl))) (mvT hZ (hw _ (List.mem_of_getElem? (i := 24) rfl))) (notFace_of_selects (args := #[]) (mvT hZ (hw _ (List.mem_of_getElem? (i := 26) rfl)))) (mvT hZ (hw _ (List.mem_of_getElem? (i := 26) rfl))) (mvT hZ (hw _ (List.mem_of_getElem? (i := 25) rfl))) (by decide) (backOf (W := 0) (own_2 l Z a0 hw [] a1 (some (.int r4)) h0 n0 Z0 hP4) hZ (hw _ (List.mem_of_getElem? (i := 27) rfl)) (hw _ (List.mem_of_getElem? (i := 3) rfl)) (by decide) (by decide)) q4a q4c (g := (mkF m 22 #[.val (.ref a1), .val .null] [(.ref a1)])) rfl (by rw [hml]; rfl) (Steps.refl _) (argsL := []) (rest := []) (lenOf pd_1_1 rfl) rfl (by show 2 * 0 + _ ≤ _; exact Nat.le_of_eq rfl) (hb hby d1_22) (fun _ _ => ⟨rfl, e3, (by decide : 0 + 0 ≤ _), (by decide : 0 + 0 ≤ _)⟩)
  dsimp only [Pt.U, Pt.locs, Pt.cells, Pt.slots] at X4 l4 y4 z4 st4 hQ4
  subst l4 y4 z4
  obtain ⟨rfl, N4q, e4⟩ := hQ4      -- what it returned, that it wrote nothing old, and the rest of your Q2
  have N4 := Fr.app N0 N4q
  obtain ⟨fs, hr, hrun, hended, hW, hsame⟩ := X4.leave (v := some (.int (0 : Int32))) (fun h => by rw [Bd.returns] at h; cases h)
  refine ⟨_, _, pre0 _ ?_, hrun, hended, _, _, rfl, ?_, ⟨_, rfl⟩, hW, hsame.mono (by decide) (by decide)⟩
  -- 4. STEPS
  · show Steps p.tables e below (s₁.setTop (mkF m 0 #[.val (.ref a1), .val .null] [])) _
    refine XS.aloadN X0.here hx rfl (hb hby d1_0) rfl rfl ?_
    show Steps p.tables e below (s₁.setTop (mkF m 1 #[.val (.ref a1), .val .null] [.null])) _
    refine XS.aloadN X0.here hx rfl (hb hby d1_1) rfl rfl ?_
    show Steps p.tables e below (s₁.setTop (mkF m 2 #[.val (.ref a1), .val .null] [(.ref a1), .null])) _
    refine Jvm.RoadKit.acmp (g := (mkF m 2 #[.val (.ref a1), .val .null] [(.ref a1), .null])) X0 hx rfl rfl rfl (pc0 := 2) (pc' := 5) (same := false) rfl (hb hby d1_2) rfl (decide_eq_false nofun) (by decide) (by decide) ?_
    show Steps p.tables e below (s₁.setTop (mkF m 5 #[.val (.ref a1), .val .null] [])) _
    refine XS.aloadN X0.here hx rfl (hb hby d1_5) rfl rfl ?_
    show Steps p.tables e below (s₁.setTop (mkF m 6 #[.val (.ref a1), .val .null] [(.ref a1)])) _
    refine st3 _ ?_
    show Steps p.tables e below (T3.setTop (mkF m 9 #[.val (.ref a1), .val .null] [(.ref w2), (.ref a1)])) _
    refine Jvm.RoadKit.acmp (g := (mkF m 9 #[.val (.ref a1), .val .null] [(.ref w2), (.ref a1)])) X3 hx rfl rfl rfl (pc0 := 9) (pc' := 21) (same := false) rfl (hb hby d1_9) rfl (decide_eq_false fun q => ha9 (Value.ref.inj q)) (by decide) (by decide) ?_
    show Steps p.tables e below (T3.setTop (mkF m 21 #[.val (.ref a1), .val .null] [])) _
    refine XS.aloadN X3.here hx rfl (hb hby d1_21) rfl rfl ?_
    show Steps p.tables e below (T3.setTop (mkF m 22 #[.val (.ref a1), .val .null] [(.ref a1)])) _
    refine st4.trans ?_
    show Steps p.tables e below (T4.setTop (mkF m 25 #[.val (.ref a1), .val .null] [(.int r4)])) _
    refine XS.ifNo X4.here hx rfl (hb hby d1_25) rfl ((if0 _ _).trans (feq hx1).1) ?_
    show Steps p.tables e below (T4.setTop (mkF m 28 #[.val (.ref a1), .val .null] [])) _
    refine XS.aloadN X4.here hx rfl (hb hby d1_28) rfl rfl ?_
    show Steps p.tables e below (T4.setTop (mkF m 29 #[.val (.ref a1), .val .null] [.null])) _
    refine XS.ifnullYes X4.here hx rfl (pc0 := 29) (pc' := 57) rfl (hb hby d1_29) rfl (by decide) (by decide) ?_
    show Steps p.tables e below (T4.setTop (mkF m 57 #[.val (.ref a1), .val .null] [])) _
    refine XS.iconst X4.here hx rfl (hb hby d1_57) ?_
    show Steps p.tables e below (T4.setTop (mkF m 58 #[.val (.ref a1), .val .null] [(.int (0 : Int32))])) _
    exact retN X4 hx (t := .boolean) Bd.returns (by simp) (hb hby d1_58) hr
  · show Q1_1n_ftft Z a1 w2 r4 h0 n0 _ T4.heap _
    exact ⟨rfl, N4, e4⟩
def Q1_1n_fftft (Z : State) (a1 : Addr) (w2 : Addr) (w4 : Addr) (r6 : Int32) (h0 : Heap) (n0 : Nat) (v : Option Value) (h : Heap) (L : List Loc) : Prop := v = some (.int (0 : Int32)) ∧ Fr n0 L ∧ h = h0
set_option maxRecDepth 65536 in
set_option maxHeartbeats 40000000 in
theorem rm1_1n_fftft (l : Launch) (Z : State) (a0 : Array Value) (hw : ∀ d ∈ tables_1, d.before a0 Z = true) (ws : List Jvm.Cond) (a1 : Addr) (w2 : Addr) (w4 : Addr) (r6 : Int32) (h0 : Heap) (n0 : Nat) (Z0 : n0 ≤ h0.size) (S_DOUBLE : Sta Z h0 "com/example/indexwright/indexwright/sql/ColumnType" "DOUBLE" "Lcom/example/indexwright/indexwright/sql/ColumnType;" (.ref w2)) (S_BIGINT : Sta Z h0 "com/example/indexwright/indexwright/sql/ColumnType" "BIGINT" "Lcom/example/indexwright/indexwright/sql/ColumnType;" (.ref w4)) (E_a1 : Exa Z h0 a1 "com/example/indexwright/indexwright/sql/ColumnType") (ha9 : a1 = w2) (hP6 : P2 Z h0 a1 (some (.int r6))) (hx1 : ¬ (r6 = (0 : Int32))) :
    MetFree l (⟨"com/example/indexwright/indexwright/sql/ColumnType", "holds", "(Lcom/example/indexwright/indexwright/sql/ColumnType;)Z"⟩ : MethodName) (head1 (Jvm.Cond.code (⟨"com/example/indexwright/indexwright/sql/ColumnType", "holds", "(Lcom/example/indexwright/indexwright/sql/ColumnType;)Z"⟩ : MethodName) prog_54_method_14_code 2 (some .boolean) :: ws) ({ frames := 2, cells := 0, slots := 0, locals := 25 } : Room)) (fun a U => a = #[(.ref a1), .null] ∧ Z.Warmed39 U.vm ∧ U.heap = h0) (fun _ _ _ _ _ => True) (fun _ U o U' => ∃ v L, o = .returned v ∧ Q1_1n_fftft Z a1 w2 w4 r6 h0 n0 v U'.heap L ∧ FrameEnd U o U' L ({ frames := 2, cells := 0, slots := 0, locals := 25 } : Room).cells ({ frames := 2, cells := 0, slots := 0, locals := 25 } : Room).slots) := by
  refine MetFree.of_bodySF (plainFor_of_name pn_1) hisR ?_
  intro p e s m args below meth c s₁ Bd hml0 hP hK
  obtain ⟨rfl, hZ, hh⟩ := hP
  have hx := Bd.exec
  have hby := Bd.bytes
  have hml : c.maxLocals = 2 := hml0
  have hown : s.vm.findClass "com/example/indexwright/indexwright/sql/ColumnType" = some m.cls := findClass_of_methodNamed Bd.named
  have hnm := (name_of_methodNamed Bd.named Bd.method).1
  have X0 : Stand p l e ({ frames := 2, cells := 0, slots := 0, locals := 25 } : Room) s m #[(.ref a1), .null] below meth c s₁ [] 0 0 := Stand.of_body Bd
  have e0 : s₁.heap = h0 := by rw [← hh, Bd.state]; rfl
  have N0 := Fr.nil n0
  have pre0 : ∀ t, Steps p.tables e below (s₁.setTop (mkF m 0 #[.val (.ref a1), .val .null] [])) t → Steps p.tables e below (s₁.setTop (entryFrame m #[(.ref a1), .null] 2)) t := fun t k => castTop (ef_1n m a1) k
  -- 3. LAWS
  obtain ⟨T3, X3, e3, st3⟩ := getS2 X0 hx hZ hown (host := "") (Or.inl (hw _ (List.mem_of_getElem? (i := 22) rfl))) Via.refl e0 S_DOUBLE (g := (mkF m 6 #[.val (.ref a1), .val .null] [(.ref a1)])) rfl (hb hby d1_6)
  obtain ⟨T5, X5, e5, st5⟩ := getS2 X3 hx hZ hown (host := "") (Or.inl (hw _ (List.mem_of_getElem? (i := 30) rfl))) Via.refl e3 S_BIGINT (g := (mkF m 13 #[.val (.ref a1), .val .null] [.null])) rfl (hb hby d1_13)
  -- pc 22: com/example/indexwright/indexwright/sql/ColumnType.isArray by the contract of the body that the receiver's class selects, rm2
  obtain ⟨cq6, kq6, q6a, q6b, q6c⟩ := isOf hZ e5 E_a1
  obtain ⟨_, _, ⟨T6, L6, k6, n6⟩, -, X6, ⟨Lc6, hQ6, l6, y6, z6⟩, st6⟩ := X5.virtualBack hx (y := (⟨"com/example/indexwright/indexwright/sql/ColumnType", "isArray", "()Z"⟩ : MethodName)) (z := (⟨"com/example/indexwright/indexwright/sql/ColumnType", "isArray", "()Z"⟩ : MethodName)) hown (mvT hZ (hw _ (List.mem_of_getElem? (i := 23) rfl))) (mvT hZ (hw _ (List.mem_of_getElem? (i := 24) rfl))) (notFace_of_selects (args := #[]) (mvT hZ (hw _ (List.mem_of_getElem? (i := 26) rfl)))) (mvT hZ (hw _ (List.mem_of_getElem? (i := 26) rfl))) (mvT hZ (hw _ (List.mem_of_getElem? (i := 25) rfl))) (by decide) (backOf (W := 0) (own_2 l Z a0 hw [] a1 (some (.int r6)) h0 n0 Z0 hP6) hZ (hw _ (List.mem_of_getElem? (i := 27) rfl)) (hw _ (List.mem_of_getElem? (i := 3) rfl)) (by decide) (by decide)) q6a q6c (g := (mkF m 22 #[.val (.ref a1), .val .null] [(.ref a1)])) rfl (by rw [hml]; rfl) (Steps.refl _) (argsL := []) (rest := []) (lenOf pd_1_1 rfl) rfl (by show 2 * 0 + _ ≤ _; exact Nat.le_of_eq rfl) (hb hby d1_22) (fun _ _ => ⟨rfl, e5, (by decide : 0 + 0 ≤ _), (by decide : 0 + 0 ≤ _)⟩)
  dsimp only [Pt.U, Pt.locs, Pt.cells, Pt.slots] at X6 l6 y6 z6 st6 hQ6
  subst l6 y6 z6
  obtain ⟨rfl, N6q, e6⟩ := hQ6      -- what it returned, that it wrote nothing old, and the rest of your Q2
  have N6 := Fr.app N0 N6q
  obtain ⟨fs, hr, hrun, hended, hW, hsame⟩ := X6.leave (v := some (.int (0 : Int32))) (fun h => by rw [Bd.returns] at h; cases h)
  refine ⟨_, _, pre0 _ ?_, hrun, hended, _, _, rfl, ?_, ⟨_, rfl⟩, hW, hsame.mono (by decide) (by decide)⟩
  -- 4. STEPS
  · show Steps p.tables e below (s₁.setTop (mkF m 0 #[.val (.ref a1), .val .null] [])) _
    refine XS.aloadN X0.here hx rfl (hb hby d1_0) rfl rfl ?_
    show Steps p.tables e below (s₁.setTop (mkF m 1 #[.val (.ref a1), .val .null] [.null])) _
    refine XS.aloadN X0.here hx rfl (hb hby d1_1) rfl rfl ?_
    show Steps p.tables e below (s₁.setTop (mkF m 2 #[.val (.ref a1), .val .null] [(.ref a1), .null])) _
    refine Jvm.RoadKit.acmp (g := (mkF m 2 #[.val (.ref a1), .val .null] [(.ref a1), .null])) X0 hx rfl rfl rfl (pc0 := 2) (pc' := 5) (same := false) rfl (hb hby d1_2) rfl (decide_eq_false nofun) (by decide) (by decide) ?_
    show Steps p.tables e below (s₁.setTop (mkF m 5 #[.val (.ref a1), .val .null] [])) _
    refine XS.aloadN X0.here hx rfl (hb hby d1_5) rfl rfl ?_
    show Steps p.tables e below (s₁.setTop (mkF m 6 #[.val (.ref a1), .val .null] [(.ref a1)])) _
    refine st3 _ ?_
    show Steps p.tables e below (T3.setTop (mkF m 9 #[.val (.ref a1), .val .null] [(.ref w2), (.ref a1)])) _
    refine Jvm.RoadKit.acmp (g := (mkF m 9 #[.val (.ref a1), .val .null] [(.ref w2), (.ref a1)])) X3 hx rfl rfl rfl (pc0 := 9) (pc' := 12) (same := true) rfl (hb hby d1_9) rfl (decide_eq_true (congrArg Value.ref ha9)) (by decide) (by decide) ?_
    show Steps p.tables e below (T3.setTop (mkF m 12 #[.val (.ref a1), .val .null] [])) _
    refine XS.aloadN X3.here hx rfl (hb hby d1_12) rfl rfl ?_
    show Steps p.tables e below (T3.setTop (mkF m 13 #[.val (.ref a1), .val .null] [.null])) _
    refine st5 _ ?_
    show Steps p.tables e below (T5.setTop (mkF m 16 #[.val (.ref a1), .val .null] [(.ref w4), .null])) _
    refine Jvm.RoadKit.acmp (g := (mkF m 16 #[.val (.ref a1), .val .null] [(.ref w4), .null])) X5 hx rfl rfl rfl (pc0 := 16) (pc' := 21) (same := false) rfl (hb hby d1_16) rfl (decide_eq_false nofun) (by decide) (by decide) ?_
    show Steps p.tables e below (T5.setTop (mkF m 21 #[.val (.ref a1), .val .null] [])) _
    refine XS.aloadN X5.here hx rfl (hb hby d1_21) rfl rfl ?_
    show Steps p.tables e below (T5.setTop (mkF m 22 #[.val (.ref a1), .val .null] [(.ref a1)])) _
    refine st6.trans ?_
    show Steps p.tables e below (T6.setTop (mkF m 25 #[.val (.ref a1), .val .null] [(.int r6)])) _
    refine XS.ifNo X6.here hx rfl (hb hby d1_25) rfl ((if0 _ _).trans (feq hx1).1) ?_
    show Steps p.tables e below (T6.setTop (mkF m 28 #[.val (.ref a1), .val .null] [])) _
    refine XS.aloadN X6.here hx rfl (hb hby d1_28) rfl rfl ?_
    show Steps p.tables e below (T6.setTop (mkF m 29 #[.val (.ref a1), .val .null] [.null])) _
    refine XS.ifnullYes X6.here hx rfl (pc0 := 29) (pc' := 57) rfl (hb hby d1_29) rfl (by decide) (by decide) ?_
    show Steps p.tables e below (T6.setTop (mkF m 57 #[.val (.ref a1), .val .null] [])) _
    refine XS.iconst X6.here hx rfl (hb hby d1_57) ?_
    show Steps p.tables e below (T6.setTop (mkF m 58 #[.val (.ref a1), .val .null] [(.int (0 : Int32))])) _
    exact retN X6 hx (t := .boolean) Bd.returns (by simp) (hb hby d1_58) hr
  · show Q1_1n_fftft Z a1 w2 w4 r6 h0 n0 _ T6.heap _
    exact ⟨rfl, N6, e6⟩
def P1n (Z : State) (h0 : Heap) (a1 : Addr) (r : Option Value) : Prop := (∃ (w2 : Addr), ∃ (r4 : Int32), (Sta Z h0 "com/example/indexwright/indexwright/sql/ColumnType" "DOUBLE" "Lcom/example/indexwright/indexwright/sql/ColumnType;" (.ref w2)) ∧ (Exa Z h0 a1 "com/example/indexwright/indexwright/sql/ColumnType") ∧ (¬ (a1 = w2)) ∧ (P2 Z h0 a1 (some (.int r4))) ∧ (r4 = (0 : Int32)) ∧ r = some (.int (0 : Int32))) ∨ (∃ (w2 : Addr), ∃ (w4 : Addr), ∃ (r6 : Int32), (Sta Z h0 "com/example/indexwright/indexwright/sql/ColumnType" "DOUBLE" "Lcom/example/indexwright/indexwright/sql/ColumnType;" (.ref w2)) ∧ (Sta Z h0 "com/example/indexwright/indexwright/sql/ColumnType" "BIGINT" "Lcom/example/indexwright/indexwright/sql/ColumnType;" (.ref w4)) ∧ (Exa Z h0 a1 "com/example/indexwright/indexwright/sql/ColumnType") ∧ (a1 = w2) ∧ (P2 Z h0 a1 (some (.int r6))) ∧ (r6 = (0 : Int32)) ∧ r = some (.int (0 : Int32))) ∨ (∃ (w2 : Addr), ∃ (r4 : Int32), (Sta Z h0 "com/example/indexwright/indexwright/sql/ColumnType" "DOUBLE" "Lcom/example/indexwright/indexwright/sql/ColumnType;" (.ref w2)) ∧ (Exa Z h0 a1 "com/example/indexwright/indexwright/sql/ColumnType") ∧ (¬ (a1 = w2)) ∧ (P2 Z h0 a1 (some (.int r4))) ∧ (¬ (r4 = (0 : Int32))) ∧ r = some (.int (0 : Int32))) ∨ (∃ (w2 : Addr), ∃ (w4 : Addr), ∃ (r6 : Int32), (Sta Z h0 "com/example/indexwright/indexwright/sql/ColumnType" "DOUBLE" "Lcom/example/indexwright/indexwright/sql/ColumnType;" (.ref w2)) ∧ (Sta Z h0 "com/example/indexwright/indexwright/sql/ColumnType" "BIGINT" "Lcom/example/indexwright/indexwright/sql/ColumnType;" (.ref w4)) ∧ (Exa Z h0 a1 "com/example/indexwright/indexwright/sql/ColumnType") ∧ (a1 = w2) ∧ (P2 Z h0 a1 (some (.int r6))) ∧ (¬ (r6 = (0 : Int32))) ∧ r = some (.int (0 : Int32)))
set_option maxRecDepth 65536 in
set_option maxHeartbeats 40000000 in
theorem own_1n (l : Launch) (Z : State) (a0 : Array Value) (hw : ∀ d ∈ tables_1, d.before a0 Z = true) (ws : List Jvm.Cond) (a1 : Addr) (r : Option Value) (h0 : Heap) (n0 : Nat) (Z0 : n0 ≤ h0.size) (hp : P1n Z h0 a1 r) :
    MetFree l (⟨"com/example/indexwright/indexwright/sql/ColumnType", "holds", "(Lcom/example/indexwright/indexwright/sql/ColumnType;)Z"⟩ : MethodName) (head1 (Jvm.Cond.code (⟨"com/example/indexwright/indexwright/sql/ColumnType", "holds", "(Lcom/example/indexwright/indexwright/sql/ColumnType;)Z"⟩ : MethodName) prog_54_method_14_code 2 (some .boolean) :: ws) ({ frames := 2, cells := 0, slots := 0, locals := 25 } : Room)) (fun a U => a = #[(.ref a1), .null] ∧ Z.Warmed39 U.vm ∧ U.heap = h0) (fun _ _ _ _ _ => True) (fun _ U o U' => ∃ v L, o = .returned v ∧ OwnQ r h0 n0 v U'.heap L ∧ FrameEnd U o U' L ({ frames := 2, cells := 0, slots := 0, locals := 25 } : Room).cells ({ frames := 2, cells := 0, slots := 0, locals := 25 } : Room).slots) := by
  rcases hp with ⟨w2, r4, k0, k1, k2, k3, k4, rfl⟩ | ⟨w2, w4, r6, k0, k1, k2, k3, k4, k5, rfl⟩ | ⟨w2, r4, k0, k1, k2, k3, k4, rfl⟩ | ⟨w2, w4, r6, k0, k1, k2, k3, k4, k5, rfl⟩
  · exact rm1_1n_ftt l Z a0 hw ws a1 w2 r4 h0 n0 Z0 k0 k1 k2 k3 k4
  · exact rm1_1n_fftt l Z a0 hw ws a1 w2 w4 r6 h0 n0 Z0 k0 k1 k2 k3 k4 k5
  · exact rm1_1n_ftft l Z a0 hw ws a1 w2 r4 h0 n0 Z0 k0 k1 k2 k3 k4
  · exact rm1_1n_fftft l Z a0 hw ws a1 w2 w4 r6 h0 n0 Z0 k0 k1 k2 k3 k4 k5
theorem P1n_keep {Z : State} {h0 h : Heap} {a1 : Addr} {r : Option Value} (K : Keep h0 h []) (hp : P1n Z h0 a1 r) : P1n Z h a1 r := by
  rcases hp with ⟨w2, r4, k0, k1, k2, k3, k4, rfl⟩ | ⟨w2, w4, r6, k0, k1, k2, k3, k4, k5, rfl⟩ | ⟨w2, r4, k0, k1, k2, k3, k4, rfl⟩ | ⟨w2, w4, r6, k0, k1, k2, k3, k4, k5, rfl⟩
  · exact (Or.inl ⟨w2, r4, (own_stak k0 K), (k1.keep K), k2, (P2_keep K k3), k4, rfl⟩)
  · exact (Or.inr (Or.inl ⟨w2, w4, r6, (own_stak k0 K), (own_stak k1 K), (k2.keep K), k3, (P2_keep K k4), k5, rfl⟩))
  · exact (Or.inr (Or.inr (Or.inl ⟨w2, r4, (own_stak k0 K), (k1.keep K), k2, (P2_keep K k3), k4, rfl⟩)))
  · exact (Or.inr (Or.inr (Or.inr ⟨w2, w4, r6, (own_stak k0 K), (own_stak k1 K), (k2.keep K), k3, (P2_keep K k4), k5, rfl⟩)))
theorem pn_0 : plainName "com/example/indexwright/indexwright/sql/ColumnTypeHoldsPinLaw" = true := by first | (simp [plainName, overriddenIn]; done) | decide +kernel
theorem pd_0_0 : parseMethodDescriptor "(Lcom/example/indexwright/indexwright/sql/ColumnType;)Z" = some ⟨[(.object "com/example/indexwright/indexwright/sql/ColumnType")], some .boolean⟩ := by decide +kernel
theorem ef_0 (m : MethodId) (x0 : Int32) (x1 : Int32) : entryFrame m #[(.int x0), (.int x1)] maxLocals = mkF m 0 #[.val (.int x0), .val (.int x1), .unset, .unset, .unset, .unset] [] := by first | (simp [entryFrame, mkF, argsToLocals, Value.category, maxLocals]; done) | rfl
def Q0_tf (Z : State) (p1 : Int32) (p2 : Int32) (w4 : Addr) (w7 : Addr) (w10 : Addr) (w13 : Addr) (w16 : Addr) (w19 : Addr) (w23 : Addr) (w24 : Addr) (h0 : Heap) (n0 : Nat) (v : Option Value) (h : Heap) (L : List Loc) : Prop := v = some (.int (1 : Int32)) ∧ Fr n0 L
set_option maxRecDepth 65536 in
set_option maxHeartbeats 40000000 in
theorem rm0_tf (l : Launch) (Z : State) (a0 : Array Value) (hw : ∀ d ∈ tables_1, d.before a0 Z = true) (ws : List Jvm.Cond) (p1 : Int32) (p2 : Int32) (w4 : Addr) (w7 : Addr) (w10 : Addr) (w13 : Addr) (w16 : Addr) (w19 : Addr) (w23 : Addr) (w24 : Addr) (r25 : Int32) (h0 : Heap) (n0 : Nat) (Z0 : n0 ≤ h0.size) (S_BIGINT : Sta Z h0 "com/example/indexwright/indexwright/sql/ColumnType" "BIGINT" "Lcom/example/indexwright/indexwright/sql/ColumnType;" (.ref w4)) (S_DOUBLE : Sta Z h0 "com/example/indexwright/indexwright/sql/ColumnType" "DOUBLE" "Lcom/example/indexwright/indexwright/sql/ColumnType;" (.ref w7)) (S_VARCHAR : Sta Z h0 "com/example/indexwright/indexwright/sql/ColumnType" "VARCHAR" "Lcom/example/indexwright/indexwright/sql/ColumnType;" (.ref w10)) (S_BIGINT_ARRAY : Sta Z h0 "com/example/indexwright/indexwright/sql/ColumnType" "BIGINT_ARRAY" "Lcom/example/indexwright/indexwright/sql/ColumnType;" (.ref w13)) (S_DOUBLE_ARRAY : Sta Z h0 "com/example/indexwright/indexwright/sql/ColumnType" "DOUBLE_ARRAY" "Lcom/example/indexwright/indexwright/sql/ColumnType;" (.ref w16)) (S_VARCHAR_ARRAY : Sta Z h0 "com/example/indexwright/indexwright/sql/ColumnType" "VARCHAR_ARRAY" "Lcom/example/indexwright/indexwright/sql/ColumnType;" (.ref w19)) (E_w23 : Exa Z h0 w23 "com/example/indexwright/indexwright/sql/ColumnType") (hc67 : ((p2 &&& (2147483647 : Int32)) % (7 : Int32)) = ((p1 &&& (2147483647 : Int32)) % (6 : Int32))) (E_w4 : Exa Z h0 w4 "com/example/indexwright/indexwright/sql/ColumnType") (E_w7 : Exa Z h0 w7 "com/example/indexwright/indexwright/sql/ColumnType") (E_w10 : Exa Z h0 w10 "com/example/indexwright/indexwright/sql/ColumnType") (E_w13 : Exa Z h0 w13 "com/example/indexwright/indexwright/sql/ColumnType") (E_w16 : Exa Z h0 w16 "com/example/indexwright/indexwright/sql/ColumnType") (E_w19 : Exa Z h0 w19 "com/example/indexwright/indexwright/sql/ColumnType") (hj100 : ¬ ((p1 &&& (2147483647 : Int32)) % (6 : Int32)) < 0 ∧ ((p1 &&& (2147483647 : Int32)) % (6 : Int32)) < (7 : Int32)) (hu100 : ([(.ref w4), (.ref w7), (.ref w10), (.ref w13), (.ref w16), (.ref w19), .null] : List Value).getD (((p1 &&& (2147483647 : Int32)) % (6 : Int32))).toNatClampNeg .null = (.ref w23)) (hj104 : ¬ ((p2 &&& (2147483647 : Int32)) % (7 : Int32)) < 0 ∧ ((p2 &&& (2147483647 : Int32)) % (7 : Int32)) < (7 : Int32)) (hu104 : ([(.ref w4), (.ref w7), (.ref w10), (.ref w13), (.ref w16), (.ref w19), .null] : List Value).getD (((p2 &&& (2147483647 : Int32)) % (7 : Int32))).toNatClampNeg .null = (.ref w24)) (hP25 : P1b Z h0 w23 w24 (some (.int r25))) (hx1 : r25 = (1 : Int32)) :
    MetFree l x (head1 (Jvm.Cond.code x code maxLocals ret :: ws) room_1) (fun a U => a = #[(.int p1), (.int p2)] ∧ Z.Warmed39 U.vm ∧ U.heap = h0) (fun _ _ _ _ _ => True) (fun _ U o U' => ∃ v L, o = .returned v ∧ Q0_tf Z p1 p2 w4 w7 w10 w13 w16 w19 w23 w24 h0 n0 v U'.heap L ∧ FrameEnd U o U' L room_1.cells room_1.slots) := by
  refine MetFree.of_bodySF (plainFor_of_name pn_0) hisR ?_
  intro p e s m args below meth c s₁ Bd hml0 hP hK
  obtain ⟨rfl, hZ, hh⟩ := hP
  have hx := Bd.exec
  have hby := Bd.bytes
  have hml : c.maxLocals = 6 := hml0
  have hown : s.vm.findClass "com/example/indexwright/indexwright/sql/ColumnTypeHoldsPinLaw" = some m.cls := findClass_of_methodNamed Bd.named
  have hnm := (name_of_methodNamed Bd.named Bd.method).1
  have X0 : Stand p l e room_1 s m #[(.int p1), (.int p2)] below meth c s₁ [] 0 0 := Stand.of_body Bd
  have e0 : s₁.heap = h0 := by rw [← hh, Bd.state]; rfl
  have N0 := Fr.nil n0
  have pre0 : ∀ t, Steps p.tables e below (s₁.setTop (mkF m 0 #[.val (.int p1), .val (.int p2), .unset, .unset, .unset, .unset] [])) t → Steps p.tables e below (s₁.setTop (entryFrame m #[(.int p1), (.int p2)] maxLocals)) t := fun t k => castTop (ef_0 m p1 p2) k
  -- 3. LAWS
  obtain ⟨T3, h3, k3, X3, e3, E3, A3, O3, st3⟩ := newR X0 hx hZ hown (hw _ (List.mem_of_getElem? (i := 0) rfl)) (hw _ (List.mem_of_getElem? (i := 1) rfl)) e0 (g := (mkF m 2 #[.val (.int p1), .val (.int p2), .unset, .unset, .unset, .unset] [(.int (7 : Int32))])) rfl (hb hby at_2) rfl (by decide) (cap := 7) (by decide) (by decide) (by decide) (by decide)
  obtain ⟨b3, g3⟩ : ∃ z, z = h0.size := ⟨_, rfl⟩      -- the fresh array's address
  rw [← g3] at A3 st3
  have V_b3 : Arv Z h3 b3 k3 (.object "com/example/indexwright/indexwright/sql/ColumnType") (7 : Int32) [.null, .null, .null, .null, .null, .null, .null] .null := (Arv.new A3 (by decide)).pad (pad_rep [] .null 7)
  have g_b3 : n0 ≤ b3 := Nat.le_trans Z0 (Nat.le_of_eq g3.symm)
  have sz_b3 : h0.size ≤ b3 := (Nat.le_trans (Keep.refl h0 []).1 (Nat.le_of_eq g3.symm))
  have K3 : Keep h0 h3 [] := (Keep.refl h0 []).ext E3
  obtain ⟨T5, X5, e5, st5⟩ := getS2 X3 hx hZ hown (host := "") (Or.inl (hw _ (List.mem_of_getElem? (i := 2) rfl))) Via.refl e3 (own_stak S_BIGINT K3) (g := (mkF m 7 #[.val (.int p1), .val (.int p2), .unset, .unset, .unset, .unset] [(.int (0 : Int32)), (.ref b3), (.ref b3)])) rfl (hb hby at_7)
  -- Sto10: the object may lie in that array: Sto.of Ar.. (an 'Ovr', by the sheet's words) (an 'Ins' of its class), Shelf42/RW6; carried by Sto.ext E.. | Sto.wr W..
  obtain ⟨cl_10, Ar_b3, q_b3, S_b3, N_b3, H_b3, G_b3⟩ := V_b3
  have hin10 := inb_of (j := (0 : Int32)) S_b3 ⟨by decide, by decide⟩
  have Sto10 := Sto.ofV Ar_b3 q_b3 O3 (Ins.self (E_w4.keep K3))
  obtain ⟨T6, h6, X6, e6, W6, st6⟩ := stR X5 hx hZ e5 Ar_b3 (j := (0 : Int32)) hin10 rfl Sto10 (g := (mkF m 10 #[.val (.int p1), .val (.int p2), .unset, .unset, .unset, .unset] [(.ref w4), (.int (0 : Int32)), (.ref b3), (.ref b3)])) rfl rfl (hb hby at_10)
  have V_b3_6 : Arv Z h6 b3 _ (.object "com/example/indexwright/indexwright/sql/ColumnType") (7 : Int32) [(.ref w4), .null, .null, .null, .null, .null, .null] .null := Arv.set Ar_b3 q_b3 S_b3 N_b3 H_b3 G_b3 rfl W6 0 rfl (Nat.le_of_ble_eq_true rfl)
  have N6 := Fr.snoc X6 N0 g_b3
  -- Ar_b3.same W6 : the array with (.ref w4) at the place (0 : Int32)
  have K6 : Keep h0 h6 [] := K3.wr W6 (Or.inr sz_b3)
  obtain ⟨T8, X8, e8, st8⟩ := getS2 X6 hx hZ hown (host := "") (Or.inl (hw _ (List.mem_of_getElem? (i := 6) rfl))) Via.refl e6 (own_stak S_DOUBLE K6) (g := (mkF m 13 #[.val (.int p1), .val (.int p2), .unset, .unset, .unset, .unset] [(.int (1 : Int32)), (.ref b3), (.ref b3)])) rfl (hb hby at_13)
  -- Sto16: the object may lie in that array: Sto.of Ar.. (an 'Ovr', by the sheet's words) (an 'Ins' of its class), Shelf42/RW6; carried by Sto.ext E.. | Sto.wr W..
  obtain ⟨cl_16, Ar_b3, q_b3, S_b3, N_b3, H_b3, G_b3⟩ := V_b3_6
  have hin16 := inb_of (j := (1 : Int32)) S_b3 ⟨by decide, by decide⟩
  have Sto16 := Sto.ofV Ar_b3 q_b3 O3 (Ins.self (E_w7.keep K6))
  obtain ⟨T9, h9, X9, e9, W9, st9⟩ := stR X8 hx hZ e8 Ar_b3 (j := (1 : Int32)) hin16 rfl Sto16 (g := (mkF m 16 #[.val (.int p1), .val (.int p2), .unset, .unset, .unset, .unset] [(.ref w7), (.int (1 : Int32)), (.ref b3), (.ref b3)])) rfl rfl (hb hby at_16)
  have V_b3_9 : Arv Z h9 b3 _ (.object "com/example/indexwright/indexwright/sql/ColumnType") (7 : Int32) [(.ref w4), (.ref w7), .null, .null, .null, .null, .null] .null := Arv.set Ar_b3 q_b3 S_b3 N_b3 H_b3 G_b3 rfl W9 1 rfl (Nat.le_of_ble_eq_true rfl)
  have N9 := Fr.snoc X9 N6 g_b3
  -- Ar_b3.same W9 : the array with (.ref w7) at the place (1 : Int32)
  have K9 : Keep h0 h9 [] := K6.wr W9 (Or.inr sz_b3)
  obtain ⟨T11, X11, e11, st11⟩ := getS2 X9 hx hZ hown (host := "") (Or.inl (hw _ (List.mem_of_getElem? (i := 8) rfl))) Via.refl e9 (own_stak S_VARCHAR K9) (g := (mkF m 19 #[.val (.int p1), .val (.int p2), .unset, .unset, .unset, .unset] [(.int (2 : Int32)), (.ref b3), (.ref b3)])) rfl (hb hby at_19)
  -- Sto22: the object may lie in that array: Sto.of Ar.. (an 'Ovr', by the sheet's words) (an 'Ins' of its class), Shelf42/RW6; carried by Sto.ext E.. | Sto.wr W..
  obtain ⟨cl_22, Ar_b3, q_b3, S_b3, N_b3, H_b3, G_b3⟩ := V_b3_9
  have hin22 := inb_of (j := (2 : Int32)) S_b3 ⟨by decide, by decide⟩
  have Sto22 := Sto.ofV Ar_b3 q_b3 O3 (Ins.self (E_w10.keep K9))
  obtain ⟨T12, h12, X12, e12, W12, st12⟩ := stR X11 hx hZ e11 Ar_b3 (j := (2 : Int32)) hin22 rfl Sto22 (g := (mkF m 22 #[.val (.int p1), .val (.int p2), .unset, .unset, .unset, .unset] [(.ref w10), (.int (2 : Int32)), (.ref b3), (.ref b3)])) rfl rfl (hb hby at_22)
  have V_b3_12 : Arv Z h12 b3 _ (.object "com/example/indexwright/indexwright/sql/ColumnType") (7 : Int32) [(.ref w4), (.ref w7), (.ref w10), .null, .null, .null, .null] .null := Arv.set Ar_b3 q_b3 S_b3 N_b3 H_b3 G_b3 rfl W12 2 rfl (Nat.le_of_ble_eq_true rfl)
  have N12 := Fr.snoc X12 N9 g_b3
  -- Ar_b3.same W12 : the array with (.ref w10) at the place (2 : Int32)
  have K12 : Keep h0 h12 [] := K9.wr W12 (Or.inr sz_b3)
  obtain ⟨T14, X14, e14, st14⟩ := getS2 X12 hx hZ hown (host := "") (Or.inl (hw _ (List.mem_of_getElem? (i := 10) rfl))) Via.refl e12 (own_stak S_BIGINT_ARRAY K12) (g := (mkF m 25 #[.val (.int p1), .val (.int p2), .unset, .unset, .unset, .unset] [(.int (3 : Int32)), (.ref b3), (.ref b3)])) rfl (hb hby at_25)
  -- Sto28: the object may lie in that array: Sto.of Ar.. (an 'Ovr', by the sheet's words) (an 'Ins' of its class), Shelf42/RW6; carried by Sto.ext E.. | Sto.wr W..
  obtain ⟨cl_28, Ar_b3, q_b3, S_b3, N_b3, H_b3, G_b3⟩ := V_b3_12
  have hin28 := inb_of (j := (3 : Int32)) S_b3 ⟨by decide, by decide⟩
  have Sto28 := Sto.ofV Ar_b3 q_b3 O3 (Ins.self (E_w13.keep K12))
  obtain ⟨T15, h15, X15, e15, W15, st15⟩ := stR X14 hx hZ e14 Ar_b3 (j := (3 : Int32)) hin28 rfl Sto28 (g := (mkF m 28 #[.val (.int p1), .val (.int p2), .unset, .unset, .unset, .unset] [(.ref w13), (.int (3 : Int32)), (.ref b3), (.ref b3)])) rfl rfl (hb hby at_28)
  have V_b3_15 : Arv Z h15 b3 _ (.object "com/example/indexwright/indexwright/sql/ColumnType") (7 : Int32) [(.ref w4), (.ref w7), (.ref w10), (.ref w13), .null, .null, .null] .null := Arv.set Ar_b3 q_b3 S_b3 N_b3 H_b3 G_b3 rfl W15 3 rfl (Nat.le_of_ble_eq_true rfl)
  have N15 := Fr.snoc X15 N12 g_b3
  -- Ar_b3.same W15 : the array with (.ref w13) at the place (3 : Int32)
  have K15 : Keep h0 h15 [] := K12.wr W15 (Or.inr sz_b3)
  obtain ⟨T17, X17, e17, st17⟩ := getS2 X15 hx hZ hown (host := "") (Or.inl (hw _ (List.mem_of_getElem? (i := 12) rfl))) Via.refl e15 (own_stak S_DOUBLE_ARRAY K15) (g := (mkF m 31 #[.val (.int p1), .val (.int p2), .unset, .unset, .unset, .unset] [(.int (4 : Int32)), (.ref b3), (.ref b3)])) rfl (hb hby at_31)
  -- Sto34: the object may lie in that array: Sto.of Ar.. (an 'Ovr', by the sheet's words) (an 'Ins' of its class), Shelf42/RW6; carried by Sto.ext E.. | Sto.wr W..
  obtain ⟨cl_34, Ar_b3, q_b3, S_b3, N_b3, H_b3, G_b3⟩ := V_b3_15
  have hin34 := inb_of (j := (4 : Int32)) S_b3 ⟨by decide, by decide⟩
  have Sto34 := Sto.ofV Ar_b3 q_b3 O3 (Ins.self (E_w16.keep K15))
  obtain ⟨T18, h18, X18, e18, W18, st18⟩ := stR X17 hx hZ e17 Ar_b3 (j := (4 : Int32)) hin34 rfl Sto34 (g := (mkF m 34 #[.val (.int p1), .val (.int p2), .unset, .unset, .unset, .unset] [(.ref w16), (.int (4 : Int32)), (.ref b3), (.ref b3)])) rfl rfl (hb hby at_34)
  have V_b3_18 : Arv Z h18 b3 _ (.object "com/example/indexwright/indexwright/sql/ColumnType") (7 : Int32) [(.ref w4), (.ref w7), (.ref w10), (.ref w13), (.ref w16), .null, .null] .null := Arv.set Ar_b3 q_b3 S_b3 N_b3 H_b3 G_b3 rfl W18 4 rfl (Nat.le_of_ble_eq_true rfl)
  have N18 := Fr.snoc X18 N15 g_b3
  -- Ar_b3.same W18 : the array with (.ref w16) at the place (4 : Int32)
  have K18 : Keep h0 h18 [] := K15.wr W18 (Or.inr sz_b3)
  obtain ⟨T20, X20, e20, st20⟩ := getS2 X18 hx hZ hown (host := "") (Or.inl (hw _ (List.mem_of_getElem? (i := 14) rfl))) Via.refl e18 (own_stak S_VARCHAR_ARRAY K18) (g := (mkF m 37 #[.val (.int p1), .val (.int p2), .unset, .unset, .unset, .unset] [(.int (5 : Int32)), (.ref b3), (.ref b3)])) rfl (hb hby at_37)
  -- Sto40: the object may lie in that array: Sto.of Ar.. (an 'Ovr', by the sheet's words) (an 'Ins' of its class), Shelf42/RW6; carried by Sto.ext E.. | Sto.wr W..
  obtain ⟨cl_40, Ar_b3, q_b3, S_b3, N_b3, H_b3, G_b3⟩ := V_b3_18
  have hin40 := inb_of (j := (5 : Int32)) S_b3 ⟨by decide, by decide⟩
  have Sto40 := Sto.ofV Ar_b3 q_b3 O3 (Ins.self (E_w19.keep K18))
  obtain ⟨T21, h21, X21, e21, W21, st21⟩ := stR X20 hx hZ e20 Ar_b3 (j := (5 : Int32)) hin40 rfl Sto40 (g := (mkF m 40 #[.val (.int p1), .val (.int p2), .unset, .unset, .unset, .unset] [(.ref w19), (.int (5 : Int32)), (.ref b3), (.ref b3)])) rfl rfl (hb hby at_40)
  have V_b3_21 : Arv Z h21 b3 _ (.object "com/example/indexwright/indexwright/sql/ColumnType") (7 : Int32) [(.ref w4), (.ref w7), (.ref w10), (.ref w13), (.ref w16), (.ref w19), .null] .null := Arv.set Ar_b3 q_b3 S_b3 N_b3 H_b3 G_b3 rfl W21 5 rfl (Nat.le_of_ble_eq_true rfl)
  have N21 := Fr.snoc X21 N18 g_b3
  -- Ar_b3.same W21 : the array with (.ref w19) at the place (5 : Int32)
  have K21 : Keep h0 h21 [] := K18.wr W21 (Or.inr sz_b3)
  obtain ⟨cl_45, Ar_b3, q_b3, S_b3, N_b3, H_b3, G_b3⟩ := V_b3_21
  have hin45 := inb_of (j := (6 : Int32)) S_b3 ⟨by decide, by decide⟩
  obtain ⟨T22, h22, X22, e22, W22, st22⟩ := stR X21 hx hZ e21 Ar_b3 (j := (6 : Int32)) hin45 rfl (Or.inl rfl) (g := (mkF m 45 #[.val (.int p1), .val (.int p2), .unset, .unset, .unset, .unset] [.null, (.int (6 : Int32)), (.ref b3), (.ref b3)])) rfl rfl (hb hby at_45)
  have V_b3_22 : Arv Z h22 b3 _ (.object "com/example/indexwright/indexwright/sql/ColumnType") (7 : Int32) [(.ref w4), (.ref w7), (.ref w10), (.ref w13), (.ref w16), (.ref w19), .null] .null := Arv.set Ar_b3 q_b3 S_b3 N_b3 H_b3 G_b3 rfl W22 6 rfl (Nat.le_of_ble_eq_true rfl)
  have N22 := Fr.snoc X22 N21 g_b3
  -- Ar_b3.same W22 : the array with .null at the place (6 : Int32)
  have K22 : Keep h0 h22 [] := K21.wr W22 (Or.inr sz_b3)
  obtain ⟨cl_100, Ar_b3_100, q_b3, S_b3, N_b3, H_b3, G_b3⟩ := V_b3_22
  have hin100 := inb_of S_b3 hj100
  have hat100 := H_b3.at hin100 hu100
  have V_b3_p100 : Arv Z h22 b3 _ (.object "com/example/indexwright/indexwright/sql/ColumnType") (7 : Int32) [(.ref w4), (.ref w7), (.ref w10), (.ref w13), (.ref w16), (.ref w19), .null] .null := ⟨cl_100, Ar_b3_100, q_b3, S_b3, N_b3, H_b3, G_b3⟩
  obtain ⟨cl_104, Ar_b3_104, q_b3, S_b3, N_b3, H_b3, G_b3⟩ := V_b3_p100
  have hin104 := inb_of S_b3 hj104
  have hat104 := H_b3.at hin104 hu104
  have V_b3_p104 : Arv Z h22 b3 _ (.object "com/example/indexwright/indexwright/sql/ColumnType") (7 : Int32) [(.ref w4), (.ref w7), (.ref w10), (.ref w13), (.ref w16), (.ref w19), .null] .null := ⟨cl_104, Ar_b3_104, q_b3, S_b3, N_b3, H_b3, G_b3⟩
  -- pc 105: com/example/indexwright/indexwright/sql/ColumnType.holds by the contract of the body that the receiver's class selects, rm1
  obtain ⟨cq25, kq25, q25a, q25b, q25c⟩ := isOf hZ e22 (E_w23.keep K22)
  obtain ⟨_, _, ⟨T25, L25, k25, n25⟩, -, X25, ⟨Lc25, hQ25, l25, y25, z25⟩, st25⟩ := X22.virtualBack hx (y := (⟨"com/example/indexwright/indexwright/sql/ColumnType", "holds", "(Lcom/example/indexwright/indexwright/sql/ColumnType;)Z"⟩ : MethodName)) (z := (⟨"com/example/indexwright/indexwright/sql/ColumnType", "holds", "(Lcom/example/indexwright/indexwright/sql/ColumnType;)Z"⟩ : MethodName)) hown (mvT hZ (hw _ (List.mem_of_getElem? (i := 17) rfl))) (mvT hZ (hw _ (List.mem_of_getElem? (i := 18) rfl))) (notFace_of_selects (args := #[]) (mvT hZ (hw _ (List.mem_of_getElem? (i := 20) rfl)))) (mvT hZ (hw _ (List.mem_of_getElem? (i := 20) rfl))) (mvT hZ (hw _ (List.mem_of_getElem? (i := 19) rfl))) (by decide) (backOf (W := 0) (own_1b l Z a0 hw [] w23 w24 (some (.int r25)) h22 n0 (Nat.le_trans Z0 K22.1) (P1b_keep K22 hP25)) hZ (hw _ (List.mem_of_getElem? (i := 21) rfl)) (hw _ (List.mem_of_getElem? (i := 3) rfl)) (by decide) (by decide)) q25a q25c (g := (mkF m 105 #[.val (.int p1), .val (.int p2), .val (.ref b3), .val (.int ((p1 &&& (2147483647 : Int32)) % (6 : Int32))), .val (.int ((p2 &&& (2147483647 : Int32)) % (7 : Int32))), .val (.int (1 : Int32))] [(.ref w24), (.ref w23)])) rfl (by rw [hml]; rfl) (Steps.refl _) (argsL := [(.ref w24)]) (rest := []) (lenOf pd_0_0 rfl) rfl (by show 2 * 0 + _ ≤ _; exact Nat.le_of_eq rfl) (hb hby at_105) (fun _ _ => ⟨rfl, e22, (by decide : 1 + 0 ≤ _), (by decide : 7 + 0 ≤ _)⟩)
  dsimp only [Pt.U, Pt.locs, Pt.cells, Pt.slots] at X25 l25 y25 z25 st25 hQ25
  subst l25 y25 z25
  obtain ⟨rfl, N25q, e25⟩ := hQ25      -- what it returned, that it wrote nothing old, and the rest of your Q1
  have N25 := Fr.app N22 N25q
  obtain ⟨fs, hr, hrun, hended, hW, hsame⟩ := X25.leave (v := some (.int (1 : Int32))) (fun h => by rw [Bd.returns] at h; cases h)
  refine ⟨_, _, pre0 _ ?_, hrun, hended, _, _, rfl, ?_, ⟨_, rfl⟩, hW, hsame.mono (by decide) (by decide)⟩
  -- 4. STEPS
  · show Steps p.tables e below (s₁.setTop (mkF m 0 #[.val (.int p1), .val (.int p2), .unset, .unset, .unset, .unset] [])) _
    refine XS.bipush X0.here hx rfl (hb hby at_0) ?_
    show Steps p.tables e below (s₁.setTop (mkF m 2 #[.val (.int p1), .val (.int p2), .unset, .unset, .unset, .unset] [(.int (7 : Int32))])) _
    refine st3 _ ?_
    show Steps p.tables e below (T3.setTop (mkF m 5 #[.val (.int p1), .val (.int p2), .unset, .unset, .unset, .unset] [(.ref b3)])) _
    refine XS.dup X3.here hx rfl (hb hby at_5) rfl rfl ?_
    show Steps p.tables e below (T3.setTop (mkF m 6 #[.val (.int p1), .val (.int p2), .unset, .unset, .unset, .unset] [(.ref b3), (.ref b3)])) _
    refine XS.iconst X3.here hx rfl (hb hby at_6) ?_
    show Steps p.tables e below (T3.setTop (mkF m 7 #[.val (.int p1), .val (.int p2), .unset, .unset, .unset, .unset] [(.int (0 : Int32)), (.ref b3), (.ref b3)])) _
    refine st5 _ ?_
    show Steps p.tables e below (T5.setTop (mkF m 10 #[.val (.int p1), .val (.int p2), .unset, .unset, .unset, .unset] [(.ref w4), (.int (0 : Int32)), (.ref b3), (.ref b3)])) _
    refine st6 _ ?_
    show Steps p.tables e below (T6.setTop (mkF m 11 #[.val (.int p1), .val (.int p2), .unset, .unset, .unset, .unset] [(.ref b3)])) _
    refine XS.dup X6.here hx rfl (hb hby at_11) rfl rfl ?_
    show Steps p.tables e below (T6.setTop (mkF m 12 #[.val (.int p1), .val (.int p2), .unset, .unset, .unset, .unset] [(.ref b3), (.ref b3)])) _
    refine XS.iconst X6.here hx rfl (hb hby at_12) ?_
    show Steps p.tables e below (T6.setTop (mkF m 13 #[.val (.int p1), .val (.int p2), .unset, .unset, .unset, .unset] [(.int (1 : Int32)), (.ref b3), (.ref b3)])) _
    refine st8 _ ?_
    show Steps p.tables e below (T8.setTop (mkF m 16 #[.val (.int p1), .val (.int p2), .unset, .unset, .unset, .unset] [(.ref w7), (.int (1 : Int32)), (.ref b3), (.ref b3)])) _
    refine st9 _ ?_
    show Steps p.tables e below (T9.setTop (mkF m 17 #[.val (.int p1), .val (.int p2), .unset, .unset, .unset, .unset] [(.ref b3)])) _
    refine XS.dup X9.here hx rfl (hb hby at_17) rfl rfl ?_
    show Steps p.tables e below (T9.setTop (mkF m 18 #[.val (.int p1), .val (.int p2), .unset, .unset, .unset, .unset] [(.ref b3), (.ref b3)])) _
    refine XS.iconst X9.here hx rfl (hb hby at_18) ?_
    show Steps p.tables e below (T9.setTop (mkF m 19 #[.val (.int p1), .val (.int p2), .unset, .unset, .unset, .unset] [(.int (2 : Int32)), (.ref b3), (.ref b3)])) _
    refine st11 _ ?_
    show Steps p.tables e below (T11.setTop (mkF m 22 #[.val (.int p1), .val (.int p2), .unset, .unset, .unset, .unset] [(.ref w10), (.int (2 : Int32)), (.ref b3), (.ref b3)])) _
    refine st12 _ ?_
    show Steps p.tables e below (T12.setTop (mkF m 23 #[.val (.int p1), .val (.int p2), .unset, .unset, .unset, .unset] [(.ref b3)])) _
    refine XS.dup X12.here hx rfl (hb hby at_23) rfl rfl ?_
    show Steps p.tables e below (T12.setTop (mkF m 24 #[.val (.int p1), .val (.int p2), .unset, .unset, .unset, .unset] [(.ref b3), (.ref b3)])) _
    refine XS.iconst X12.here hx rfl (hb hby at_24) ?_
    show Steps p.tables e below (T12.setTop (mkF m 25 #[.val (.int p1), .val (.int p2), .unset, .unset, .unset, .unset] [(.int (3 : Int32)), (.ref b3), (.ref b3)])) _
    refine st14 _ ?_
    show Steps p.tables e below (T14.setTop (mkF m 28 #[.val (.int p1), .val (.int p2), .unset, .unset, .unset, .unset] [(.ref w13), (.int (3 : Int32)), (.ref b3), (.ref b3)])) _
    refine st15 _ ?_
    show Steps p.tables e below (T15.setTop (mkF m 29 #[.val (.int p1), .val (.int p2), .unset, .unset, .unset, .unset] [(.ref b3)])) _
    refine XS.dup X15.here hx rfl (hb hby at_29) rfl rfl ?_
    show Steps p.tables e below (T15.setTop (mkF m 30 #[.val (.int p1), .val (.int p2), .unset, .unset, .unset, .unset] [(.ref b3), (.ref b3)])) _
    refine XS.iconst X15.here hx rfl (hb hby at_30) ?_
    show Steps p.tables e below (T15.setTop (mkF m 31 #[.val (.int p1), .val (.int p2), .unset, .unset, .unset, .unset] [(.int (4 : Int32)), (.ref b3), (.ref b3)])) _
    refine st17 _ ?_
    show Steps p.tables e below (T17.setTop (mkF m 34 #[.val (.int p1), .val (.int p2), .unset, .unset, .unset, .unset] [(.ref w16), (.int (4 : Int32)), (.ref b3), (.ref b3)])) _
    refine st18 _ ?_
    show Steps p.tables e below (T18.setTop (mkF m 35 #[.val (.int p1), .val (.int p2), .unset, .unset, .unset, .unset] [(.ref b3)])) _
    refine XS.dup X18.here hx rfl (hb hby at_35) rfl rfl ?_
    show Steps p.tables e below (T18.setTop (mkF m 36 #[.val (.int p1), .val (.int p2), .unset, .unset, .unset, .unset] [(.ref b3), (.ref b3)])) _
    refine XS.iconst X18.here hx rfl (hb hby at_36) ?_
    show Steps p.tables e below (T18.setTop (mkF m 37 #[.val (.int p1), .val (.int p2), .unset, .unset, .unset, .unset] [(.int (5 : Int32)), (.ref b3), (.ref b3)])) _
    refine st20 _ ?_
    show Steps p.tables e below (T20.setTop (mkF m 40 #[.val (.int p1), .val (.int p2), .unset, .unset, .unset, .unset] [(.ref w19), (.int (5 : Int32)), (.ref b3), (.ref b3)])) _
    refine st21 _ ?_
    show Steps p.tables e below (T21.setTop (mkF m 41 #[.val (.int p1), .val (.int p2), .unset, .unset, .unset, .unset] [(.ref b3)])) _
    refine XS.dup X21.here hx rfl (hb hby at_41) rfl rfl ?_
    show Steps p.tables e below (T21.setTop (mkF m 42 #[.val (.int p1), .val (.int p2), .unset, .unset, .unset, .unset] [(.ref b3), (.ref b3)])) _
    refine XS.bipush X21.here hx rfl (hb hby at_42) ?_
    show Steps p.tables e below (T21.setTop (mkF m 44 #[.val (.int p1), .val (.int p2), .unset, .unset, .unset, .unset] [(.int (6 : Int32)), (.ref b3), (.ref b3)])) _
    refine XS.aconstNull X21.here hx rfl (hb hby at_44) ?_
    show Steps p.tables e below (T21.setTop (mkF m 45 #[.val (.int p1), .val (.int p2), .unset, .unset, .unset, .unset] [.null, (.int (6 : Int32)), (.ref b3), (.ref b3)])) _
    refine st22 _ ?_
    show Steps p.tables e below (T22.setTop (mkF m 46 #[.val (.int p1), .val (.int p2), .unset, .unset, .unset, .unset] [(.ref b3)])) _
    refine XS.astoreN X22.here hx rfl (hb hby at_46) rfl rfl (l' := #[.val (.int p1), .val (.int p2), .val (.ref b3), .unset, .unset, .unset]) rfl ?_
    show Steps p.tables e below (T22.setTop (mkF m 47 #[.val (.int p1), .val (.int p2), .val (.ref b3), .unset, .unset, .unset] [])) _
    refine XS.iloadN X22.here hx rfl (hb hby at_47) rfl ?_
    show Steps p.tables e below (T22.setTop (mkF m 48 #[.val (.int p1), .val (.int p2), .val (.ref b3), .unset, .unset, .unset] [(.int p1)])) _
    refine X22.ldcInt hx hown (mvT hZ (hw _ (List.mem_of_getElem? (i := 16) rfl))) (g := (mkF m 48 #[.val (.int p1), .val (.int p2), .val (.ref b3), .unset, .unset, .unset] [(.int p1)])) rfl (hb hby at_48) _ ?_
    show Steps p.tables e below (T22.setTop (mkF m 50 #[.val (.int p1), .val (.int p2), .val (.ref b3), .unset, .unset, .unset] [(.int (2147483647 : Int32)), (.int p1)])) _
    refine XS.iand X22.here hx rfl (hb hby at_50) rfl ?_
    show Steps p.tables e below (T22.setTop (mkF m 51 #[.val (.int p1), .val (.int p2), .val (.ref b3), .unset, .unset, .unset] [(.int (p1 &&& (2147483647 : Int32)))])) _
    refine XS.bipush X22.here hx rfl (hb hby at_51) ?_
    show Steps p.tables e below (T22.setTop (mkF m 53 #[.val (.int p1), .val (.int p2), .val (.ref b3), .unset, .unset, .unset] [(.int (6 : Int32)), (.int (p1 &&& (2147483647 : Int32)))])) _
    refine Jvm.RoadKit.iremM X22 hx rfl (hb hby at_53) rfl (by decide) ?_
    show Steps p.tables e below (T22.setTop (mkF m 54 #[.val (.int p1), .val (.int p2), .val (.ref b3), .unset, .unset, .unset] [(.int ((p1 &&& (2147483647 : Int32)) % (6 : Int32)))])) _
    refine XS.istoreN X22.here hx rfl (hb hby at_54) rfl (l' := #[.val (.int p1), .val (.int p2), .val (.ref b3), .val (.int ((p1 &&& (2147483647 : Int32)) % (6 : Int32))), .unset, .unset]) rfl ?_
    show Steps p.tables e below (T22.setTop (mkF m 55 #[.val (.int p1), .val (.int p2), .val (.ref b3), .val (.int ((p1 &&& (2147483647 : Int32)) % (6 : Int32))), .unset, .unset] [])) _
    refine XS.iloadN X22.here hx rfl (hb hby at_55) rfl ?_
    show Steps p.tables e below (T22.setTop (mkF m 56 #[.val (.int p1), .val (.int p2), .val (.ref b3), .val (.int ((p1 &&& (2147483647 : Int32)) % (6 : Int32))), .unset, .unset] [(.int p2)])) _
    refine X22.ldcInt hx hown (mvT hZ (hw _ (List.mem_of_getElem? (i := 16) rfl))) (g := (mkF m 56 #[.val (.int p1), .val (.int p2), .val (.ref b3), .val (.int ((p1 &&& (2147483647 : Int32)) % (6 : Int32))), .unset, .unset] [(.int p2)])) rfl (hb hby at_56) _ ?_
    show Steps p.tables e below (T22.setTop (mkF m 58 #[.val (.int p1), .val (.int p2), .val (.ref b3), .val (.int ((p1 &&& (2147483647 : Int32)) % (6 : Int32))), .unset, .unset] [(.int (2147483647 : Int32)), (.int p2)])) _
    refine XS.iand X22.here hx rfl (hb hby at_58) rfl ?_
    show Steps p.tables e below (T22.setTop (mkF m 59 #[.val (.int p1), .val (.int p2), .val (.ref b3), .val (.int ((p1 &&& (2147483647 : Int32)) % (6 : Int32))), .unset, .unset] [(.int (p2 &&& (2147483647 : Int32)))])) _
    refine XS.bipush X22.here hx rfl (hb hby at_59) ?_
    show Steps p.tables e below (T22.setTop (mkF m 61 #[.val (.int p1), .val (.int p2), .val (.ref b3), .val (.int ((p1 &&& (2147483647 : Int32)) % (6 : Int32))), .unset, .unset] [(.int (7 : Int32)), (.int (p2 &&& (2147483647 : Int32)))])) _
    refine Jvm.RoadKit.iremM X22 hx rfl (hb hby at_61) rfl (by decide) ?_
    show Steps p.tables e below (T22.setTop (mkF m 62 #[.val (.int p1), .val (.int p2), .val (.ref b3), .val (.int ((p1 &&& (2147483647 : Int32)) % (6 : Int32))), .unset, .unset] [(.int ((p2 &&& (2147483647 : Int32)) % (7 : Int32)))])) _
    refine XS.istore X22.here hx rfl (hb hby at_62) rfl (l' := #[.val (.int p1), .val (.int p2), .val (.ref b3), .val (.int ((p1 &&& (2147483647 : Int32)) % (6 : Int32))), .val (.int ((p2 &&& (2147483647 : Int32)) % (7 : Int32))), .unset]) rfl ?_
    show Steps p.tables e below (T22.setTop (mkF m 64 #[.val (.int p1), .val (.int p2), .val (.ref b3), .val (.int ((p1 &&& (2147483647 : Int32)) % (6 : Int32))), .val (.int ((p2 &&& (2147483647 : Int32)) % (7 : Int32))), .unset] [])) _
    refine XS.iload X22.here hx rfl (hb hby at_64) rfl ?_
    show Steps p.tables e below (T22.setTop (mkF m 66 #[.val (.int p1), .val (.int p2), .val (.ref b3), .val (.int ((p1 &&& (2147483647 : Int32)) % (6 : Int32))), .val (.int ((p2 &&& (2147483647 : Int32)) % (7 : Int32))), .unset] [(.int ((p2 &&& (2147483647 : Int32)) % (7 : Int32)))])) _
    refine XS.iloadN X22.here hx rfl (hb hby at_66) rfl ?_
    show Steps p.tables e below (T22.setTop (mkF m 67 #[.val (.int p1), .val (.int p2), .val (.ref b3), .val (.int ((p1 &&& (2147483647 : Int32)) % (6 : Int32))), .val (.int ((p2 &&& (2147483647 : Int32)) % (7 : Int32))), .unset] [(.int ((p1 &&& (2147483647 : Int32)) % (6 : Int32))), (.int ((p2 &&& (2147483647 : Int32)) % (7 : Int32)))])) _
    refine XS.icmpYes X22.here hx rfl (pc0 := 67) (pc' := 91) rfl (hb hby at_67) rfl (teq hc67).1 (by decide) (by decide) ?_
    show Steps p.tables e below (T22.setTop (mkF m 91 #[.val (.int p1), .val (.int p2), .val (.ref b3), .val (.int ((p1 &&& (2147483647 : Int32)) % (6 : Int32))), .val (.int ((p2 &&& (2147483647 : Int32)) % (7 : Int32))), .unset] [])) _
    refine XS.iconst X22.here hx rfl (hb hby at_91) ?_
    show Steps p.tables e below (T22.setTop (mkF m 92 #[.val (.int p1), .val (.int p2), .val (.ref b3), .val (.int ((p1 &&& (2147483647 : Int32)) % (6 : Int32))), .val (.int ((p2 &&& (2147483647 : Int32)) % (7 : Int32))), .unset] [(.int (1 : Int32))])) _
    refine XS.goto X22.here hx rfl (pc0 := 92) (pc' := 96) rfl (hb hby at_92) (by decide) (by decide) ?_
    show Steps p.tables e below (T22.setTop (mkF m 96 #[.val (.int p1), .val (.int p2), .val (.ref b3), .val (.int ((p1 &&& (2147483647 : Int32)) % (6 : Int32))), .val (.int ((p2 &&& (2147483647 : Int32)) % (7 : Int32))), .unset] [(.int (1 : Int32))])) _
    refine XS.istore X22.here hx rfl (hb hby at_96) rfl (l' := #[.val (.int p1), .val (.int p2), .val (.ref b3), .val (.int ((p1 &&& (2147483647 : Int32)) % (6 : Int32))), .val (.int ((p2 &&& (2147483647 : Int32)) % (7 : Int32))), .val (.int (1 : Int32))]) rfl ?_
    show Steps p.tables e below (T22.setTop (mkF m 98 #[.val (.int p1), .val (.int p2), .val (.ref b3), .val (.int ((p1 &&& (2147483647 : Int32)) % (6 : Int32))), .val (.int ((p2 &&& (2147483647 : Int32)) % (7 : Int32))), .val (.int (1 : Int32))] [])) _
    refine XS.aloadN X22.here hx rfl (hb hby at_98) rfl rfl ?_
    show Steps p.tables e below (T22.setTop (mkF m 99 #[.val (.int p1), .val (.int p2), .val (.ref b3), .val (.int ((p1 &&& (2147483647 : Int32)) % (6 : Int32))), .val (.int ((p2 &&& (2147483647 : Int32)) % (7 : Int32))), .val (.int (1 : Int32))] [(.ref b3)])) _
    refine XS.iloadN X22.here hx rfl (hb hby at_99) rfl ?_
    show Steps p.tables e below (T22.setTop (mkF m 100 #[.val (.int p1), .val (.int p2), .val (.ref b3), .val (.int ((p1 &&& (2147483647 : Int32)) % (6 : Int32))), .val (.int ((p2 &&& (2147483647 : Int32)) % (7 : Int32))), .val (.int (1 : Int32))] [(.int ((p1 &&& (2147483647 : Int32)) % (6 : Int32))), (.ref b3)])) _
    refine X22.aaload hx (j := ((p1 &&& (2147483647 : Int32)) % (6 : Int32))) (v := (.ref w23)) (by rw [e22]; exact Ar_b3_100.1) (State.isArrayOf_alike hZ.alike Ar_b3_100.2.1) rfl Ar_b3_100.2.2 hin100 hat100 (g := (mkF m 100 #[.val (.int p1), .val (.int p2), .val (.ref b3), .val (.int ((p1 &&& (2147483647 : Int32)) % (6 : Int32))), .val (.int ((p2 &&& (2147483647 : Int32)) % (7 : Int32))), .val (.int (1 : Int32))] [(.int ((p1 &&& (2147483647 : Int32)) % (6 : Int32))), (.ref b3)])) rfl rfl (hb hby at_100) _ ?_
    show Steps p.tables e below (T22.setTop (mkF m 101 #[.val (.int p1), .val (.int p2), .val (.ref b3), .val (.int ((p1 &&& (2147483647 : Int32)) % (6 : Int32))), .val (.int ((p2 &&& (2147483647 : Int32)) % (7 : Int32))), .val (.int (1 : Int32))] [(.ref w23)])) _
    refine XS.aloadN X22.here hx rfl (hb hby at_101) rfl rfl ?_
    show Steps p.tables e below (T22.setTop (mkF m 102 #[.val (.int p1), .val (.int p2), .val (.ref b3), .val (.int ((p1 &&& (2147483647 : Int32)) % (6 : Int32))), .val (.int ((p2 &&& (2147483647 : Int32)) % (7 : Int32))), .val (.int (1 : Int32))] [(.ref b3), (.ref w23)])) _
    refine XS.iload X22.here hx rfl (hb hby at_102) rfl ?_
    show Steps p.tables e below (T22.setTop (mkF m 104 #[.val (.int p1), .val (.int p2), .val (.ref b3), .val (.int ((p1 &&& (2147483647 : Int32)) % (6 : Int32))), .val (.int ((p2 &&& (2147483647 : Int32)) % (7 : Int32))), .val (.int (1 : Int32))] [(.int ((p2 &&& (2147483647 : Int32)) % (7 : Int32))), (.ref b3), (.ref w23)])) _
    refine X22.aaload hx (j := ((p2 &&& (2147483647 : Int32)) % (7 : Int32))) (v := (.ref w24)) (by rw [e22]; exact Ar_b3_104.1) (State.isArrayOf_alike hZ.alike Ar_b3_104.2.1) rfl Ar_b3_104.2.2 hin104 hat104 (g := (mkF m 104 #[.val (.int p1), .val (.int p2), .val (.ref b3), .val (.int ((p1 &&& (2147483647 : Int32)) % (6 : Int32))), .val (.int ((p2 &&& (2147483647 : Int32)) % (7 : Int32))), .val (.int (1 : Int32))] [(.int ((p2 &&& (2147483647 : Int32)) % (7 : Int32))), (.ref b3), (.ref w23)])) rfl rfl (hb hby at_104) _ ?_
    show Steps p.tables e below (T22.setTop (mkF m 105 #[.val (.int p1), .val (.int p2), .val (.ref b3), .val (.int ((p1 &&& (2147483647 : Int32)) % (6 : Int32))), .val (.int ((p2 &&& (2147483647 : Int32)) % (7 : Int32))), .val (.int (1 : Int32))] [(.ref w24), (.ref w23)])) _
    refine st25.trans ?_
    show Steps p.tables e below (T25.setTop (mkF m 108 #[.val (.int p1), .val (.int p2), .val (.ref b3), .val (.int ((p1 &&& (2147483647 : Int32)) % (6 : Int32))), .val (.int ((p2 &&& (2147483647 : Int32)) % (7 : Int32))), .val (.int (1 : Int32))] [(.int r25)])) _
    refine XS.iload X25.here hx rfl (hb hby at_108) rfl ?_
    show Steps p.tables e below (T25.setTop (mkF m 110 #[.val (.int p1), .val (.int p2), .val (.ref b3), .val (.int ((p1 &&& (2147483647 : Int32)) % (6 : Int32))), .val (.int ((p2 &&& (2147483647 : Int32)) % (7 : Int32))), .val (.int (1 : Int32))] [(.int (1 : Int32)), (.int r25)])) _
    refine XS.icmpNo X25.here hx rfl (hb hby at_110) rfl (teq hx1).2 ?_
    show Steps p.tables e below (T25.setTop (mkF m 113 #[.val (.int p1), .val (.int p2), .val (.ref b3), .val (.int ((p1 &&& (2147483647 : Int32)) % (6 : Int32))), .val (.int ((p2 &&& (2147483647 : Int32)) % (7 : Int32))), .val (.int (1 : Int32))] [])) _
    refine XS.iconst X25.here hx rfl (hb hby at_113) ?_
    show Steps p.tables e below (T25.setTop (mkF m 114 #[.val (.int p1), .val (.int p2), .val (.ref b3), .val (.int ((p1 &&& (2147483647 : Int32)) % (6 : Int32))), .val (.int ((p2 &&& (2147483647 : Int32)) % (7 : Int32))), .val (.int (1 : Int32))] [(.int (1 : Int32))])) _
    refine XS.goto X25.here hx rfl (pc0 := 114) (pc' := 118) rfl (hb hby at_114) (by decide) (by decide) ?_
    show Steps p.tables e below (T25.setTop (mkF m 118 #[.val (.int p1), .val (.int p2), .val (.ref b3), .val (.int ((p1 &&& (2147483647 : Int32)) % (6 : Int32))), .val (.int ((p2 &&& (2147483647 : Int32)) % (7 : Int32))), .val (.int (1 : Int32))] [(.int (1 : Int32))])) _
    exact retN X25 hx (t := .boolean) Bd.returns (by simp) (hb hby at_118) hr
  · show Q0_tf Z p1 p2 w4 w7 w10 w13 w16 w19 w23 w24 h0 n0 _ T25.heap _
    exact ⟨rfl, N25⟩
def Q0_fftf (Z : State) (p1 : Int32) (p2 : Int32) (w4 : Addr) (w7 : Addr) (w10 : Addr) (w13 : Addr) (w16 : Addr) (w19 : Addr) (w23 : Addr) (w24 : Addr) (h0 : Heap) (n0 : Nat) (v : Option Value) (h : Heap) (L : List Loc) : Prop := v = some (.int (1 : Int32)) ∧ Fr n0 L
set_option maxRecDepth 65536 in
set_option maxHeartbeats 40000000 in
theorem rm0_fftf (l : Launch) (Z : State) (a0 : Array Value) (hw : ∀ d ∈ tables_1, d.before a0 Z = true) (ws : List Jvm.Cond) (p1 : Int32) (p2 : Int32) (w4 : Addr) (w7 : Addr) (w10 : Addr) (w13 : Addr) (w16 : Addr) (w19 : Addr) (w23 : Addr) (w24 : Addr) (r25 : Int32) (h0 : Heap) (n0 : Nat) (Z0 : n0 ≤ h0.size) (S_BIGINT : Sta Z h0 "com/example/indexwright/indexwright/sql/ColumnType" "BIGINT" "Lcom/example/indexwright/indexwright/sql/ColumnType;" (.ref w4)) (S_DOUBLE : Sta Z h0 "com/example/indexwright/indexwright/sql/ColumnType" "DOUBLE" "Lcom/example/indexwright/indexwright/sql/ColumnType;" (.ref w7)) (S_VARCHAR : Sta Z h0 "com/example/indexwright/indexwright/sql/ColumnType" "VARCHAR" "Lcom/example/indexwright/indexwright/sql/ColumnType;" (.ref w10)) (S_BIGINT_ARRAY : Sta Z h0 "com/example/indexwright/indexwright/sql/ColumnType" "BIGINT_ARRAY" "Lcom/example/indexwright/indexwright/sql/ColumnType;" (.ref w13)) (S_DOUBLE_ARRAY : Sta Z h0 "com/example/indexwright/indexwright/sql/ColumnType" "DOUBLE_ARRAY" "Lcom/example/indexwright/indexwright/sql/ColumnType;" (.ref w16)) (S_VARCHAR_ARRAY : Sta Z h0 "com/example/indexwright/indexwright/sql/ColumnType" "VARCHAR_ARRAY" "Lcom/example/indexwright/indexwright/sql/ColumnType;" (.ref w19)) (E_w23 : Exa Z h0 w23 "com/example/indexwright/indexwright/sql/ColumnType") (hc67 : ¬ (((p2 &&& (2147483647 : Int32)) % (7 : Int32)) = ((p1 &&& (2147483647 : Int32)) % (6 : Int32)))) (hc72 : ((p1 &&& (2147483647 : Int32)) % (6 : Int32)) = (1 : Int32)) (hc77 : ((p2 &&& (2147483647 : Int32)) % (7 : Int32)) = (0 : Int32)) (E_w4 : Exa Z h0 w4 "com/example/indexwright/indexwright/sql/ColumnType") (E_w7 : Exa Z h0 w7 "com/example/indexwright/indexwright/sql/ColumnType") (E_w10 : Exa Z h0 w10 "com/example/indexwright/indexwright/sql/ColumnType") (E_w13 : Exa Z h0 w13 "com/example/indexwright/indexwright/sql/ColumnType") (E_w16 : Exa Z h0 w16 "com/example/indexwright/indexwright/sql/ColumnType") (E_w19 : Exa Z h0 w19 "com/example/indexwright/indexwright/sql/ColumnType") (hj100 : ¬ ((p1 &&& (2147483647 : Int32)) % (6 : Int32)) < 0 ∧ ((p1 &&& (2147483647 : Int32)) % (6 : Int32)) < (7 : Int32)) (hu100 : ([(.ref w4), (.ref w7), (.ref w10), (.ref w13), (.ref w16), (.ref w19), .null] : List Value).getD (((p1 &&& (2147483647 : Int32)) % (6 : Int32))).toNatClampNeg .null = (.ref w23)) (hj104 : ¬ ((p2 &&& (2147483647 : Int32)) % (7 : Int32)) < 0 ∧ ((p2 &&& (2147483647 : Int32)) % (7 : Int32)) < (7 : Int32)) (hu104 : ([(.ref w4), (.ref w7), (.ref w10), (.ref w13), (.ref w16), (.ref w19), .null] : List Value).getD (((p2 &&& (2147483647 : Int32)) % (7 : Int32))).toNatClampNeg .null = (.ref w24)) (hP25 : P1b Z h0 w23 w24 (some (.int r25))) (hx1 : r25 = (1 : Int32)) :
    MetFree l x (head1 (Jvm.Cond.code x code maxLocals ret :: ws) room_1) (fun a U => a = #[(.int p1), (.int p2)] ∧ Z.Warmed39 U.vm ∧ U.heap = h0) (fun _ _ _ _ _ => True) (fun _ U o U' => ∃ v L, o = .returned v ∧ Q0_fftf Z p1 p2 w4 w7 w10 w13 w16 w19 w23 w24 h0 n0 v U'.heap L ∧ FrameEnd U o U' L room_1.cells room_1.slots) := by
  refine MetFree.of_bodySF (plainFor_of_name pn_0) hisR ?_
  intro p e s m args below meth c s₁ Bd hml0 hP hK
  obtain ⟨rfl, hZ, hh⟩ := hP
  have hx := Bd.exec
  have hby := Bd.bytes
  have hml : c.maxLocals = 6 := hml0
  have hown : s.vm.findClass "com/example/indexwright/indexwright/sql/ColumnTypeHoldsPinLaw" = some m.cls := findClass_of_methodNamed Bd.named
  have hnm := (name_of_methodNamed Bd.named Bd.method).1
  have X0 : Stand p l e room_1 s m #[(.int p1), (.int p2)] below meth c s₁ [] 0 0 := Stand.of_body Bd
  have e0 : s₁.heap = h0 := by rw [← hh, Bd.state]; rfl
  have N0 := Fr.nil n0
  have pre0 : ∀ t, Steps p.tables e below (s₁.setTop (mkF m 0 #[.val (.int p1), .val (.int p2), .unset, .unset, .unset, .unset] [])) t → Steps p.tables e below (s₁.setTop (entryFrame m #[(.int p1), (.int p2)] maxLocals)) t := fun t k => castTop (ef_0 m p1 p2) k
  -- 3. LAWS
  obtain ⟨T3, h3, k3, X3, e3, E3, A3, O3, st3⟩ := newR X0 hx hZ hown (hw _ (List.mem_of_getElem? (i := 0) rfl)) (hw _ (List.mem_of_getElem? (i := 1) rfl)) e0 (g := (mkF m 2 #[.val (.int p1), .val (.int p2), .unset, .unset, .unset, .unset] [(.int (7 : Int32))])) rfl (hb hby at_2) rfl (by decide) (cap := 7) (by decide) (by decide) (by decide) (by decide)
  obtain ⟨b3, g3⟩ : ∃ z, z = h0.size := ⟨_, rfl⟩      -- the fresh array's address
  rw [← g3] at A3 st3
  have V_b3 : Arv Z h3 b3 k3 (.object "com/example/indexwright/indexwright/sql/ColumnType") (7 : Int32) [.null, .null, .null, .null, .null, .null, .null] .null := (Arv.new A3 (by decide)).pad (pad_rep [] .null 7)
  have g_b3 : n0 ≤ b3 := Nat.le_trans Z0 (Nat.le_of_eq g3.symm)
  have sz_b3 : h0.size ≤ b3 := (Nat.le_trans (Keep.refl h0 []).1 (Nat.le_of_eq g3.symm))
  have K3 : Keep h0 h3 [] := (Keep.refl h0 []).ext E3
  obtain ⟨T5, X5, e5, st5⟩ := getS2 X3 hx hZ hown (host := "") (Or.inl (hw _ (List.mem_of_getElem? (i := 2) rfl))) Via.refl e3 (own_stak S_BIGINT K3) (g := (mkF m 7 #[.val (.int p1), .val (.int p2), .unset, .unset, .unset, .unset] [(.int (0 : Int32)), (.ref b3), (.ref b3)])) rfl (hb hby at_7)
  -- Sto10: the object may lie in that array: Sto.of Ar.. (an 'Ovr', by the sheet's words) (an 'Ins' of its class), Shelf42/RW6; carried by Sto.ext E.. | Sto.wr W..
  obtain ⟨cl_10, Ar_b3, q_b3, S_b3, N_b3, H_b3, G_b3⟩ := V_b3
  have hin10 := inb_of (j := (0 : Int32)) S_b3 ⟨by decide, by decide⟩
  have Sto10 := Sto.ofV Ar_b3 q_b3 O3 (Ins.self (E_w4.keep K3))
  obtain ⟨T6, h6, X6, e6, W6, st6⟩ := stR X5 hx hZ e5 Ar_b3 (j := (0 : Int32)) hin10 rfl Sto10 (g := (mkF m 10 #[.val (.int p1), .val (.int p2), .unset, .unset, .unset, .unset] [(.ref w4), (.int (0 : Int32)), (.ref b3), (.ref b3)])) rfl rfl (hb hby at_10)
  have V_b3_6 : Arv Z h6 b3 _ (.object "com/example/indexwright/indexwright/sql/ColumnType") (7 : Int32) [(.ref w4), .null, .null, .null, .null, .null, .null] .null := Arv.set Ar_b3 q_b3 S_b3 N_b3 H_b3 G_b3 rfl W6 0 rfl (Nat.le_of_ble_eq_true rfl)
  have N6 := Fr.snoc X6 N0 g_b3
  -- Ar_b3.same W6 : the array with (.ref w4) at the place (0 : Int32)
  have K6 : Keep h0 h6 [] := K3.wr W6 (Or.inr sz_b3)
  obtain ⟨T8, X8, e8, st8⟩ := getS2 X6 hx hZ hown (host := "") (Or.inl (hw _ (List.mem_of_getElem? (i := 6) rfl))) Via.refl e6 (own_stak S_DOUBLE K6) (g := (mkF m 13 #[.val (.int p1), .val (.int p2), .unset, .unset, .unset, .unset] [(.int (1 : Int32)), (.ref b3), (.ref b3)])) rfl (hb hby at_13)
  -- Sto16: the object may lie in that array: Sto.of Ar.. (an 'Ovr', by the sheet's words) (an 'Ins' of its class), Shelf42/RW6; carried by Sto.ext E.. | Sto.wr W..
  obtain ⟨cl_16, Ar_b3, q_b3, S_b3, N_b3, H_b3, G_b3⟩ := V_b3_6
  have hin16 := inb_of (j := (1 : Int32)) S_b3 ⟨by decide, by decide⟩
  have Sto16 := Sto.ofV Ar_b3 q_b3 O3 (Ins.self (E_w7.keep K6))
  obtain ⟨T9, h9, X9, e9, W9, st9⟩ := stR X8 hx hZ e8 Ar_b3 (j := (1 : Int32)) hin16 rfl Sto16 (g := (mkF m 16 #[.val (.int p1), .val (.int p2), .unset, .unset, .unset, .unset] [(.ref w7), (.int (1 : Int32)), (.ref b3), (.ref b3)])) rfl rfl (hb hby at_16)
  have V_b3_9 : Arv Z h9 b3 _ (.object "com/example/indexwright/indexwright/sql/ColumnType") (7 : Int32) [(.ref w4), (.ref w7), .null, .null, .null, .null, .null] .null := Arv.set Ar_b3 q_b3 S_b3 N_b3 H_b3 G_b3 rfl W9 1 rfl (Nat.le_of_ble_eq_true rfl)
  have N9 := Fr.snoc X9 N6 g_b3
  -- Ar_b3.same W9 : the array with (.ref w7) at the place (1 : Int32)
  have K9 : Keep h0 h9 [] := K6.wr W9 (Or.inr sz_b3)
  obtain ⟨T11, X11, e11, st11⟩ := getS2 X9 hx hZ hown (host := "") (Or.inl (hw _ (List.mem_of_getElem? (i := 8) rfl))) Via.refl e9 (own_stak S_VARCHAR K9) (g := (mkF m 19 #[.val (.int p1), .val (.int p2), .unset, .unset, .unset, .unset] [(.int (2 : Int32)), (.ref b3), (.ref b3)])) rfl (hb hby at_19)
  -- Sto22: the object may lie in that array: Sto.of Ar.. (an 'Ovr', by the sheet's words) (an 'Ins' of its class), Shelf42/RW6; carried by Sto.ext E.. | Sto.wr W..
  obtain ⟨cl_22, Ar_b3, q_b3, S_b3, N_b3, H_b3, G_b3⟩ := V_b3_9
  have hin22 := inb_of (j := (2 : Int32)) S_b3 ⟨by decide, by decide⟩
  have Sto22 := Sto.ofV Ar_b3 q_b3 O3 (Ins.self (E_w10.keep K9))
  obtain ⟨T12, h12, X12, e12, W12, st12⟩ := stR X11 hx hZ e11 Ar_b3 (j := (2 : Int32)) hin22 rfl Sto22 (g := (mkF m 22 #[.val (.int p1), .val (.int p2), .unset, .unset, .unset, .unset] [(.ref w10), (.int (2 : Int32)), (.ref b3), (.ref b3)])) rfl rfl (hb hby at_22)
  have V_b3_12 : Arv Z h12 b3 _ (.object "com/example/indexwright/indexwright/sql/ColumnType") (7 : Int32) [(.ref w4), (.ref w7), (.ref w10), .null, .null, .null, .null] .null := Arv.set Ar_b3 q_b3 S_b3 N_b3 H_b3 G_b3 rfl W12 2 rfl (Nat.le_of_ble_eq_true rfl)
  have N12 := Fr.snoc X12 N9 g_b3
  -- Ar_b3.same W12 : the array with (.ref w10) at the place (2 : Int32)
  have K12 : Keep h0 h12 [] := K9.wr W12 (Or.inr sz_b3)
  obtain ⟨T14, X14, e14, st14⟩ := getS2 X12 hx hZ hown (host := "") (Or.inl (hw _ (List.mem_of_getElem? (i := 10) rfl))) Via.refl e12 (own_stak S_BIGINT_ARRAY K12) (g := (mkF m 25 #[.val (.int p1), .val (.int p2), .unset, .unset, .unset, .unset] [(.int (3 : Int32)), (.ref b3), (.ref b3)])) rfl (hb hby at_25)
  -- Sto28: the object may lie in that array: Sto.of Ar.. (an 'Ovr', by the sheet's words) (an 'Ins' of its class), Shelf42/RW6; carried by Sto.ext E.. | Sto.wr W..
  obtain ⟨cl_28, Ar_b3, q_b3, S_b3, N_b3, H_b3, G_b3⟩ := V_b3_12
  have hin28 := inb_of (j := (3 : Int32)) S_b3 ⟨by decide, by decide⟩
  have Sto28 := Sto.ofV Ar_b3 q_b3 O3 (Ins.self (E_w13.keep K12))
  obtain ⟨T15, h15, X15, e15, W15, st15⟩ := stR X14 hx hZ e14 Ar_b3 (j := (3 : Int32)) hin28 rfl Sto28 (g := (mkF m 28 #[.val (.int p1), .val (.int p2), .unset, .unset, .unset, .unset] [(.ref w13), (.int (3 : Int32)), (.ref b3), (.ref b3)])) rfl rfl (hb hby at_28)
  have V_b3_15 : Arv Z h15 b3 _ (.object "com/example/indexwright/indexwright/sql/ColumnType") (7 : Int32) [(.ref w4), (.ref w7), (.ref w10), (.ref w13), .null, .null, .null] .null := Arv.set Ar_b3 q_b3 S_b3 N_b3 H_b3 G_b3 rfl W15 3 rfl (Nat.le_of_ble_eq_true rfl)
  have N15 := Fr.snoc X15 N12 g_b3
  -- Ar_b3.same W15 : the array with (.ref w13) at the place (3 : Int32)
  have K15 : Keep h0 h15 [] := K12.wr W15 (Or.inr sz_b3)
  obtain ⟨T17, X17, e17, st17⟩ := getS2 X15 hx hZ hown (host := "") (Or.inl (hw _ (List.mem_of_getElem? (i := 12) rfl))) Via.refl e15 (own_stak S_DOUBLE_ARRAY K15) (g := (mkF m 31 #[.val (.int p1), .val (.int p2), .unset, .unset, .unset, .unset] [(.int (4 : Int32)), (.ref b3), (.ref b3)])) rfl (hb hby at_31)
  -- Sto34: the object may lie in that array: Sto.of Ar.. (an 'Ovr', by the sheet's words) (an 'Ins' of its class), Shelf42/RW6; carried by Sto.ext E.. | Sto.wr W..
  obtain ⟨cl_34, Ar_b3, q_b3, S_b3, N_b3, H_b3, G_b3⟩ := V_b3_15
  have hin34 := inb_of (j := (4 : Int32)) S_b3 ⟨by decide, by decide⟩
  have Sto34 := Sto.ofV Ar_b3 q_b3 O3 (Ins.self (E_w16.keep K15))
  obtain ⟨T18, h18, X18, e18, W18, st18⟩ := stR X17 hx hZ e17 Ar_b3 (j := (4 : Int32)) hin34 rfl Sto34 (g := (mkF m 34 #[.val (.int p1), .val (.int p2), .unset, .unset, .unset, .unset] [(.ref w16), (.int (4 : Int32)), (.ref b3), (.ref b3)])) rfl rfl (hb hby at_34)
  have V_b3_18 : Arv Z h18 b3 _ (.object "com/example/indexwright/indexwright/sql/ColumnType") (7 : Int32) [(.ref w4), (.ref w7), (.ref w10), (.ref w13), (.ref w16), .null, .null] .null := Arv.set Ar_b3 q_b3 S_b3 N_b3 H_b3 G_b3 rfl W18 4 rfl (Nat.le_of_ble_eq_true rfl)
  have N18 := Fr.snoc X18 N15 g_b3
  -- Ar_b3.same W18 : the array with (.ref w16) at the place (4 : Int32)
  have K18 : Keep h0 h18 [] := K15.wr W18 (Or.inr sz_b3)
  obtain ⟨T20, X20, e20, st20⟩ := getS2 X18 hx hZ hown (host := "") (Or.inl (hw _ (List.mem_of_getElem? (i := 14) rfl))) Via.refl e18 (own_stak S_VARCHAR_ARRAY K18) (g := (mkF m 37 #[.val (.int p1), .val (.int p2), .unset, .unset, .unset, .unset] [(.int (5 : Int32)), (.ref b3), (.ref b3)])) rfl (hb hby at_37)
  -- Sto40: the object may lie in that array: Sto.of Ar.. (an 'Ovr', by the sheet's words) (an 'Ins' of its class), Shelf42/RW6; carried by Sto.ext E.. | Sto.wr W..
  obtain ⟨cl_40, Ar_b3, q_b3, S_b3, N_b3, H_b3, G_b3⟩ := V_b3_18
  have hin40 := inb_of (j := (5 : Int32)) S_b3 ⟨by decide, by decide⟩
  have Sto40 := Sto.ofV Ar_b3 q_b3 O3 (Ins.self (E_w19.keep K18))
  obtain ⟨T21, h21, X21, e21, W21, st21⟩ := stR X20 hx hZ e20 Ar_b3 (j := (5 : Int32)) hin40 rfl Sto40 (g := (mkF m 40 #[.val (.int p1), .val (.int p2), .unset, .unset, .unset, .unset] [(.ref w19), (.int (5 : Int32)), (.ref b3), (.ref b3)])) rfl rfl (hb hby at_40)
  have V_b3_21 : Arv Z h21 b3 _ (.object "com/example/indexwright/indexwright/sql/ColumnType") (7 : Int32) [(.ref w4), (.ref w7), (.ref w10), (.ref w13), (.ref w16), (.ref w19), .null] .null := Arv.set Ar_b3 q_b3 S_b3 N_b3 H_b3 G_b3 rfl W21 5 rfl (Nat.le_of_ble_eq_true rfl)
  have N21 := Fr.snoc X21 N18 g_b3
  -- Ar_b3.same W21 : the array with (.ref w19) at the place (5 : Int32)
  have K21 : Keep h0 h21 [] := K18.wr W21 (Or.inr sz_b3)
  obtain ⟨cl_45, Ar_b3, q_b3, S_b3, N_b3, H_b3, G_b3⟩ := V_b3_21
  have hin45 := inb_of (j := (6 : Int32)) S_b3 ⟨by decide, by decide⟩
  obtain ⟨T22, h22, X22, e22, W22, st22⟩ := stR X21 hx hZ e21 Ar_b3 (j := (6 : Int32)) hin45 rfl (Or.inl rfl) (g := (mkF m 45 #[.val (.int p1), .val (.int p2), .unset, .unset, .unset, .unset] [.null, (.int (6 : Int32)), (.ref b3), (.ref b3)])) rfl rfl (hb hby at_45)
  have V_b3_22 : Arv Z h22 b3 _ (.object "com/example/indexwright/indexwright/sql/ColumnType") (7 : Int32) [(.ref w4), (.ref w7), (.ref w10), (.ref w13), (.ref w16), (.ref w19), .null] .null := Arv.set Ar_b3 q_b3 S_b3 N_b3 H_b3 G_b3 rfl W22 6 rfl (Nat.le_of_ble_eq_true rfl)
  have N22 := Fr.snoc X22 N21 g_b3
  -- Ar_b3.same W22 : the array with .null at the place (6 : Int32)
  have K22 : Keep h0 h22 [] := K21.wr W22 (Or.inr sz_b3)
  obtain ⟨cl_100, Ar_b3_100, q_b3, S_b3, N_b3, H_b3, G_b3⟩ := V_b3_22
  have hin100 := inb_of S_b3 hj100
  have hat100 := H_b3.at hin100 hu100
  have V_b3_p100 : Arv Z h22 b3 _ (.object "com/example/indexwright/indexwright/sql/ColumnType") (7 : Int32) [(.ref w4), (.ref w7), (.ref w10), (.ref w13), (.ref w16), (.ref w19), .null] .null := ⟨cl_100, Ar_b3_100, q_b3, S_b3, N_b3, H_b3, G_b3⟩
  obtain ⟨cl_104, Ar_b3_104, q_b3, S_b3, N_b3, H_b3, G_b3⟩ := V_b3_p100
  have hin104 := inb_of S_b3 hj104
  have hat104 := H_b3.at hin104 hu104
  have V_b3_p104 : Arv Z h22 b3 _ (.object "com/example/indexwright/indexwright/sql/ColumnType") (7 : Int32) [(.ref w4), (.ref w7), (.ref w10), (.ref w13), (.ref w16), (.ref w19), .null] .null := ⟨cl_104, Ar_b3_104, q_b3, S_b3, N_b3, H_b3, G_b3⟩
  -- pc 105: com/example/indexwright/indexwright/sql/ColumnType.holds by the contract of the body that the receiver's class selects, rm1
  obtain ⟨cq25, kq25, q25a, q25b, q25c⟩ := isOf hZ e22 (E_w23.keep K22)
  obtain ⟨_, _, ⟨T25, L25, k25, n25⟩, -, X25, ⟨Lc25, hQ25, l25, y25, z25⟩, st25⟩ := X22.virtualBack hx (y := (⟨"com/example/indexwright/indexwright/sql/ColumnType", "holds", "(Lcom/example/indexwright/indexwright/sql/ColumnType;)Z"⟩ : MethodName)) (z := (⟨"com/example/indexwright/indexwright/sql/ColumnType", "holds", "(Lcom/example/indexwright/indexwright/sql/ColumnType;)Z"⟩ : MethodName)) hown (mvT hZ (hw _ (List.mem_of_getElem? (i := 17) rfl))) (mvT hZ (hw _ (List.mem_of_getElem? (i := 18) rfl))) (notFace_of_selects (args := #[]) (mvT hZ (hw _ (List.mem_of_getElem? (i := 20) rfl)))) (mvT hZ (hw _ (List.mem_of_getElem? (i := 20) rfl))) (mvT hZ (hw _ (List.mem_of_getElem? (i := 19) rfl))) (by decide) (backOf (W := 0) (own_1b l Z a0 hw [] w23 w24 (some (.int r25)) h22 n0 (Nat.le_trans Z0 K22.1) (P1b_keep K22 hP25)) hZ (hw _ (List.mem_of_getElem? (i := 21) rfl)) (hw _ (List.mem_of_getElem? (i := 3) rfl)) (by decide) (by decide)) q25a q25c (g := (mkF m 105 #[.val (.int p1), .val (.int p2), .val (.ref b3), .val (.int ((p1 &&& (2147483647 : Int32)) % (6 : Int32))), .val (.int ((p2 &&& (2147483647 : Int32)) % (7 : Int32))), .val (.int (1 : Int32))] [(.ref w24), (.ref w23)])) rfl (by rw [hml]; rfl) (Steps.refl _) (argsL := [(.ref w24)]) (rest := []) (lenOf pd_0_0 rfl) rfl (by show 2 * 0 + _ ≤ _; exact Nat.le_of_eq rfl) (hb hby at_105) (fun _ _ => ⟨rfl, e22, (by decide : 1 + 0 ≤ _), (by decide : 7 + 0 ≤ _)⟩)
  dsimp only [Pt.U, Pt.locs, Pt.cells, Pt.slots] at X25 l25 y25 z25 st25 hQ25
  subst l25 y25 z25
  obtain ⟨rfl, N25q, e25⟩ := hQ25      -- what it returned, that it wrote nothing old, and the rest of your Q1
  have N25 := Fr.app N22 N25q
  obtain ⟨fs, hr, hrun, hended, hW, hsame⟩ := X25.leave (v := some (.int (1 : Int32))) (fun h => by rw [Bd.returns] at h; cases h)
  refine ⟨_, _, pre0 _ ?_, hrun, hended, _, _, rfl, ?_, ⟨_, rfl⟩, hW, hsame.mono (by decide) (by decide)⟩
  -- 4. STEPS
  · show Steps p.tables e below (s₁.setTop (mkF m 0 #[.val (.int p1), .val (.int p2), .unset, .unset, .unset, .unset] [])) _
    refine XS.bipush X0.here hx rfl (hb hby at_0) ?_
    show Steps p.tables e below (s₁.setTop (mkF m 2 #[.val (.int p1), .val (.int p2), .unset, .unset, .unset, .unset] [(.int (7 : Int32))])) _
    refine st3 _ ?_
    show Steps p.tables e below (T3.setTop (mkF m 5 #[.val (.int p1), .val (.int p2), .unset, .unset, .unset, .unset] [(.ref b3)])) _
    refine XS.dup X3.here hx rfl (hb hby at_5) rfl rfl ?_
    show Steps p.tables e below (T3.setTop (mkF m 6 #[.val (.int p1), .val (.int p2), .unset, .unset, .unset, .unset] [(.ref b3), (.ref b3)])) _
    refine XS.iconst X3.here hx rfl (hb hby at_6) ?_
    show Steps p.tables e below (T3.setTop (mkF m 7 #[.val (.int p1), .val (.int p2), .unset, .unset, .unset, .unset] [(.int (0 : Int32)), (.ref b3), (.ref b3)])) _
    refine st5 _ ?_
    show Steps p.tables e below (T5.setTop (mkF m 10 #[.val (.int p1), .val (.int p2), .unset, .unset, .unset, .unset] [(.ref w4), (.int (0 : Int32)), (.ref b3), (.ref b3)])) _
    refine st6 _ ?_
    show Steps p.tables e below (T6.setTop (mkF m 11 #[.val (.int p1), .val (.int p2), .unset, .unset, .unset, .unset] [(.ref b3)])) _
    refine XS.dup X6.here hx rfl (hb hby at_11) rfl rfl ?_
    show Steps p.tables e below (T6.setTop (mkF m 12 #[.val (.int p1), .val (.int p2), .unset, .unset, .unset, .unset] [(.ref b3), (.ref b3)])) _
    refine XS.iconst X6.here hx rfl (hb hby at_12) ?_
    show Steps p.tables e below (T6.setTop (mkF m 13 #[.val (.int p1), .val (.int p2), .unset, .unset, .unset, .unset] [(.int (1 : Int32)), (.ref b3), (.ref b3)])) _
    refine st8 _ ?_
    show Steps p.tables e below (T8.setTop (mkF m 16 #[.val (.int p1), .val (.int p2), .unset, .unset, .unset, .unset] [(.ref w7), (.int (1 : Int32)), (.ref b3), (.ref b3)])) _
    refine st9 _ ?_
    show Steps p.tables e below (T9.setTop (mkF m 17 #[.val (.int p1), .val (.int p2), .unset, .unset, .unset, .unset] [(.ref b3)])) _
    refine XS.dup X9.here hx rfl (hb hby at_17) rfl rfl ?_
    show Steps p.tables e below (T9.setTop (mkF m 18 #[.val (.int p1), .val (.int p2), .unset, .unset, .unset, .unset] [(.ref b3), (.ref b3)])) _
    refine XS.iconst X9.here hx rfl (hb hby at_18) ?_
    show Steps p.tables e below (T9.setTop (mkF m 19 #[.val (.int p1), .val (.int p2), .unset, .unset, .unset, .unset] [(.int (2 : Int32)), (.ref b3), (.ref b3)])) _
    refine st11 _ ?_
    show Steps p.tables e below (T11.setTop (mkF m 22 #[.val (.int p1), .val (.int p2), .unset, .unset, .unset, .unset] [(.ref w10), (.int (2 : Int32)), (.ref b3), (.ref b3)])) _
    refine st12 _ ?_
    show Steps p.tables e below (T12.setTop (mkF m 23 #[.val (.int p1), .val (.int p2), .unset, .unset, .unset, .unset] [(.ref b3)])) _
    refine XS.dup X12.here hx rfl (hb hby at_23) rfl rfl ?_
    show Steps p.tables e below (T12.setTop (mkF m 24 #[.val (.int p1), .val (.int p2), .unset, .unset, .unset, .unset] [(.ref b3), (.ref b3)])) _
    refine XS.iconst X12.here hx rfl (hb hby at_24) ?_
    show Steps p.tables e below (T12.setTop (mkF m 25 #[.val (.int p1), .val (.int p2), .unset, .unset, .unset, .unset] [(.int (3 : Int32)), (.ref b3), (.ref b3)])) _
    refine st14 _ ?_
    show Steps p.tables e below (T14.setTop (mkF m 28 #[.val (.int p1), .val (.int p2), .unset, .unset, .unset, .unset] [(.ref w13), (.int (3 : Int32)), (.ref b3), (.ref b3)])) _
    refine st15 _ ?_
    show Steps p.tables e below (T15.setTop (mkF m 29 #[.val (.int p1), .val (.int p2), .unset, .unset, .unset, .unset] [(.ref b3)])) _
    refine XS.dup X15.here hx rfl (hb hby at_29) rfl rfl ?_
    show Steps p.tables e below (T15.setTop (mkF m 30 #[.val (.int p1), .val (.int p2), .unset, .unset, .unset, .unset] [(.ref b3), (.ref b3)])) _
    refine XS.iconst X15.here hx rfl (hb hby at_30) ?_
    show Steps p.tables e below (T15.setTop (mkF m 31 #[.val (.int p1), .val (.int p2), .unset, .unset, .unset, .unset] [(.int (4 : Int32)), (.ref b3), (.ref b3)])) _
    refine st17 _ ?_
    show Steps p.tables e below (T17.setTop (mkF m 34 #[.val (.int p1), .val (.int p2), .unset, .unset, .unset, .unset] [(.ref w16), (.int (4 : Int32)), (.ref b3), (.ref b3)])) _
    refine st18 _ ?_
    show Steps p.tables e below (T18.setTop (mkF m 35 #[.val (.int p1), .val (.int p2), .unset, .unset, .unset, .unset] [(.ref b3)])) _
    refine XS.dup X18.here hx rfl (hb hby at_35) rfl rfl ?_
    show Steps p.tables e below (T18.setTop (mkF m 36 #[.val (.int p1), .val (.int p2), .unset, .unset, .unset, .unset] [(.ref b3), (.ref b3)])) _
    refine XS.iconst X18.here hx rfl (hb hby at_36) ?_
    show Steps p.tables e below (T18.setTop (mkF m 37 #[.val (.int p1), .val (.int p2), .unset, .unset, .unset, .unset] [(.int (5 : Int32)), (.ref b3), (.ref b3)])) _
    refine st20 _ ?_
    show Steps p.tables e below (T20.setTop (mkF m 40 #[.val (.int p1), .val (.int p2), .unset, .unset, .unset, .unset] [(.ref w19), (.int (5 : Int32)), (.ref b3), (.ref b3)])) _
    refine st21 _ ?_
    show Steps p.tables e below (T21.setTop (mkF m 41 #[.val (.int p1), .val (.int p2), .unset, .unset, .unset, .unset] [(.ref b3)])) _
    refine XS.dup X21.here hx rfl (hb hby at_41) rfl rfl ?_
    show Steps p.tables e below (T21.setTop (mkF m 42 #[.val (.int p1), .val (.int p2), .unset, .unset, .unset, .unset] [(.ref b3), (.ref b3)])) _
    refine XS.bipush X21.here hx rfl (hb hby at_42) ?_
    show Steps p.tables e below (T21.setTop (mkF m 44 #[.val (.int p1), .val (.int p2), .unset, .unset, .unset, .unset] [(.int (6 : Int32)), (.ref b3), (.ref b3)])) _
    refine XS.aconstNull X21.here hx rfl (hb hby at_44) ?_
    show Steps p.tables e below (T21.setTop (mkF m 45 #[.val (.int p1), .val (.int p2), .unset, .unset, .unset, .unset] [.null, (.int (6 : Int32)), (.ref b3), (.ref b3)])) _
    refine st22 _ ?_
    show Steps p.tables e below (T22.setTop (mkF m 46 #[.val (.int p1), .val (.int p2), .unset, .unset, .unset, .unset] [(.ref b3)])) _
    refine XS.astoreN X22.here hx rfl (hb hby at_46) rfl rfl (l' := #[.val (.int p1), .val (.int p2), .val (.ref b3), .unset, .unset, .unset]) rfl ?_
    show Steps p.tables e below (T22.setTop (mkF m 47 #[.val (.int p1), .val (.int p2), .val (.ref b3), .unset, .unset, .unset] [])) _
    refine XS.iloadN X22.here hx rfl (hb hby at_47) rfl ?_
    show Steps p.tables e below (T22.setTop (mkF m 48 #[.val (.int p1), .val (.int p2), .val (.ref b3), .unset, .unset, .unset] [(.int p1)])) _
    refine X22.ldcInt hx hown (mvT hZ (hw _ (List.mem_of_getElem? (i := 16) rfl))) (g := (mkF m 48 #[.val (.int p1), .val (.int p2), .val (.ref b3), .unset, .unset, .unset] [(.int p1)])) rfl (hb hby at_48) _ ?_
    show Steps p.tables e below (T22.setTop (mkF m 50 #[.val (.int p1), .val (.int p2), .val (.ref b3), .unset, .unset, .unset] [(.int (2147483647 : Int32)), (.int p1)])) _
    refine XS.iand X22.here hx rfl (hb hby at_50) rfl ?_
    show Steps p.tables e below (T22.setTop (mkF m 51 #[.val (.int p1), .val (.int p2), .val (.ref b3), .unset, .unset, .unset] [(.int (p1 &&& (2147483647 : Int32)))])) _
    refine XS.bipush X22.here hx rfl (hb hby at_51) ?_
    show Steps p.tables e below (T22.setTop (mkF m 53 #[.val (.int p1), .val (.int p2), .val (.ref b3), .unset, .unset, .unset] [(.int (6 : Int32)), (.int (p1 &&& (2147483647 : Int32)))])) _
    refine Jvm.RoadKit.iremM X22 hx rfl (hb hby at_53) rfl (by decide) ?_
    show Steps p.tables e below (T22.setTop (mkF m 54 #[.val (.int p1), .val (.int p2), .val (.ref b3), .unset, .unset, .unset] [(.int ((p1 &&& (2147483647 : Int32)) % (6 : Int32)))])) _
    refine XS.istoreN X22.here hx rfl (hb hby at_54) rfl (l' := #[.val (.int p1), .val (.int p2), .val (.ref b3), .val (.int ((p1 &&& (2147483647 : Int32)) % (6 : Int32))), .unset, .unset]) rfl ?_
    show Steps p.tables e below (T22.setTop (mkF m 55 #[.val (.int p1), .val (.int p2), .val (.ref b3), .val (.int ((p1 &&& (2147483647 : Int32)) % (6 : Int32))), .unset, .unset] [])) _
    refine XS.iloadN X22.here hx rfl (hb hby at_55) rfl ?_
    show Steps p.tables e below (T22.setTop (mkF m 56 #[.val (.int p1), .val (.int p2), .val (.ref b3), .val (.int ((p1 &&& (2147483647 : Int32)) % (6 : Int32))), .unset, .unset] [(.int p2)])) _
    refine X22.ldcInt hx hown (mvT hZ (hw _ (List.mem_of_getElem? (i := 16) rfl))) (g := (mkF m 56 #[.val (.int p1), .val (.int p2), .val (.ref b3), .val (.int ((p1 &&& (2147483647 : Int32)) % (6 : Int32))), .unset, .unset] [(.int p2)])) rfl (hb hby at_56) _ ?_
    show Steps p.tables e below (T22.setTop (mkF m 58 #[.val (.int p1), .val (.int p2), .val (.ref b3), .val (.int ((p1 &&& (2147483647 : Int32)) % (6 : Int32))), .unset, .unset] [(.int (2147483647 : Int32)), (.int p2)])) _
    refine XS.iand X22.here hx rfl (hb hby at_58) rfl ?_
    show Steps p.tables e below (T22.setTop (mkF m 59 #[.val (.int p1), .val (.int p2), .val (.ref b3), .val (.int ((p1 &&& (2147483647 : Int32)) % (6 : Int32))), .unset, .unset] [(.int (p2 &&& (2147483647 : Int32)))])) _
    refine XS.bipush X22.here hx rfl (hb hby at_59) ?_
    show Steps p.tables e below (T22.setTop (mkF m 61 #[.val (.int p1), .val (.int p2), .val (.ref b3), .val (.int ((p1 &&& (2147483647 : Int32)) % (6 : Int32))), .unset, .unset] [(.int (7 : Int32)), (.int (p2 &&& (2147483647 : Int32)))])) _
    refine Jvm.RoadKit.iremM X22 hx rfl (hb hby at_61) rfl (by decide) ?_
    show Steps p.tables e below (T22.setTop (mkF m 62 #[.val (.int p1), .val (.int p2), .val (.ref b3), .val (.int ((p1 &&& (2147483647 : Int32)) % (6 : Int32))), .unset, .unset] [(.int ((p2 &&& (2147483647 : Int32)) % (7 : Int32)))])) _
    refine XS.istore X22.here hx rfl (hb hby at_62) rfl (l' := #[.val (.int p1), .val (.int p2), .val (.ref b3), .val (.int ((p1 &&& (2147483647 : Int32)) % (6 : Int32))), .val (.int ((p2 &&& (2147483647 : Int32)) % (7 : Int32))), .unset]) rfl ?_
    show Steps p.tables e below (T22.setTop (mkF m 64 #[.val (.int p1), .val (.int p2), .val (.ref b3), .val (.int ((p1 &&& (2147483647 : Int32)) % (6 : Int32))), .val (.int ((p2 &&& (2147483647 : Int32)) % (7 : Int32))), .unset] [])) _
    refine XS.iload X22.here hx rfl (hb hby at_64) rfl ?_
    show Steps p.tables e below (T22.setTop (mkF m 66 #[.val (.int p1), .val (.int p2), .val (.ref b3), .val (.int ((p1 &&& (2147483647 : Int32)) % (6 : Int32))), .val (.int ((p2 &&& (2147483647 : Int32)) % (7 : Int32))), .unset] [(.int ((p2 &&& (2147483647 : Int32)) % (7 : Int32)))])) _
    refine XS.iloadN X22.here hx rfl (hb hby at_66) rfl ?_
    show Steps p.tables e below (T22.setTop (mkF m 67 #[.val (.int p1), .val (.int p2), .val (.ref b3), .val (.int ((p1 &&& (2147483647 : Int32)) % (6 : Int32))), .val (.int ((p2 &&& (2147483647 : Int32)) % (7 : Int32))), .unset] [(.int ((p1 &&& (2147483647 : Int32)) % (6 : Int32))), (.int ((p2 &&& (2147483647 : Int32)) % (7 : Int32)))])) _
    refine XS.icmpNo X22.here hx rfl (hb hby at_67) rfl (feq hc67).1 ?_
    show Steps p.tables e below (T22.setTop (mkF m 70 #[.val (.int p1), .val (.int p2), .val (.ref b3), .val (.int ((p1 &&& (2147483647 : Int32)) % (6 : Int32))), .val (.int ((p2 &&& (2147483647 : Int32)) % (7 : Int32))), .unset] [])) _
    refine XS.iloadN X22.here hx rfl (hb hby at_70) rfl ?_
    show Steps p.tables e below (T22.setTop (mkF m 71 #[.val (.int p1), .val (.int p2), .val (.ref b3), .val (.int ((p1 &&& (2147483647 : Int32)) % (6 : Int32))), .val (.int ((p2 &&& (2147483647 : Int32)) % (7 : Int32))), .unset] [(.int ((p1 &&& (2147483647 : Int32)) % (6 : Int32)))])) _
    refine XS.iconst X22.here hx rfl (hb hby at_71) ?_
    show Steps p.tables e below (T22.setTop (mkF m 72 #[.val (.int p1), .val (.int p2), .val (.ref b3), .val (.int ((p1 &&& (2147483647 : Int32)) % (6 : Int32))), .val (.int ((p2 &&& (2147483647 : Int32)) % (7 : Int32))), .unset] [(.int (1 : Int32)), (.int ((p1 &&& (2147483647 : Int32)) % (6 : Int32)))])) _
    refine XS.icmpNo X22.here hx rfl (hb hby at_72) rfl (teq hc72).2 ?_
    show Steps p.tables e below (T22.setTop (mkF m 75 #[.val (.int p1), .val (.int p2), .val (.ref b3), .val (.int ((p1 &&& (2147483647 : Int32)) % (6 : Int32))), .val (.int ((p2 &&& (2147483647 : Int32)) % (7 : Int32))), .unset] [])) _
    refine XS.iload X22.here hx rfl (hb hby at_75) rfl ?_
    show Steps p.tables e below (T22.setTop (mkF m 77 #[.val (.int p1), .val (.int p2), .val (.ref b3), .val (.int ((p1 &&& (2147483647 : Int32)) % (6 : Int32))), .val (.int ((p2 &&& (2147483647 : Int32)) % (7 : Int32))), .unset] [(.int ((p2 &&& (2147483647 : Int32)) % (7 : Int32)))])) _
    refine XS.ifYes X22.here hx rfl (pc0 := 77) (pc' := 91) rfl (hb hby at_77) rfl ((if0 _ _).trans (teq hc77).1) (by decide) (by decide) ?_
    show Steps p.tables e below (T22.setTop (mkF m 91 #[.val (.int p1), .val (.int p2), .val (.ref b3), .val (.int ((p1 &&& (2147483647 : Int32)) % (6 : Int32))), .val (.int ((p2 &&& (2147483647 : Int32)) % (7 : Int32))), .unset] [])) _
    refine XS.iconst X22.here hx rfl (hb hby at_91) ?_
    show Steps p.tables e below (T22.setTop (mkF m 92 #[.val (.int p1), .val (.int p2), .val (.ref b3), .val (.int ((p1 &&& (2147483647 : Int32)) % (6 : Int32))), .val (.int ((p2 &&& (2147483647 : Int32)) % (7 : Int32))), .unset] [(.int (1 : Int32))])) _
    refine XS.goto X22.here hx rfl (pc0 := 92) (pc' := 96) rfl (hb hby at_92) (by decide) (by decide) ?_
    show Steps p.tables e below (T22.setTop (mkF m 96 #[.val (.int p1), .val (.int p2), .val (.ref b3), .val (.int ((p1 &&& (2147483647 : Int32)) % (6 : Int32))), .val (.int ((p2 &&& (2147483647 : Int32)) % (7 : Int32))), .unset] [(.int (1 : Int32))])) _
    refine XS.istore X22.here hx rfl (hb hby at_96) rfl (l' := #[.val (.int p1), .val (.int p2), .val (.ref b3), .val (.int ((p1 &&& (2147483647 : Int32)) % (6 : Int32))), .val (.int ((p2 &&& (2147483647 : Int32)) % (7 : Int32))), .val (.int (1 : Int32))]) rfl ?_
    show Steps p.tables e below (T22.setTop (mkF m 98 #[.val (.int p1), .val (.int p2), .val (.ref b3), .val (.int ((p1 &&& (2147483647 : Int32)) % (6 : Int32))), .val (.int ((p2 &&& (2147483647 : Int32)) % (7 : Int32))), .val (.int (1 : Int32))] [])) _
    refine XS.aloadN X22.here hx rfl (hb hby at_98) rfl rfl ?_
    show Steps p.tables e below (T22.setTop (mkF m 99 #[.val (.int p1), .val (.int p2), .val (.ref b3), .val (.int ((p1 &&& (2147483647 : Int32)) % (6 : Int32))), .val (.int ((p2 &&& (2147483647 : Int32)) % (7 : Int32))), .val (.int (1 : Int32))] [(.ref b3)])) _
    refine XS.iloadN X22.here hx rfl (hb hby at_99) rfl ?_
    show Steps p.tables e below (T22.setTop (mkF m 100 #[.val (.int p1), .val (.int p2), .val (.ref b3), .val (.int ((p1 &&& (2147483647 : Int32)) % (6 : Int32))), .val (.int ((p2 &&& (2147483647 : Int32)) % (7 : Int32))), .val (.int (1 : Int32))] [(.int ((p1 &&& (2147483647 : Int32)) % (6 : Int32))), (.ref b3)])) _
    refine X22.aaload hx (j := ((p1 &&& (2147483647 : Int32)) % (6 : Int32))) (v := (.ref w23)) (by rw [e22]; exact Ar_b3_100.1) (State.isArrayOf_alike hZ.alike Ar_b3_100.2.1) rfl Ar_b3_100.2.2 hin100 hat100 (g := (mkF m 100 #[.val (.int p1), .val (.int p2), .val (.ref b3), .val (.int ((p1 &&& (2147483647 : Int32)) % (6 : Int32))), .val (.int ((p2 &&& (2147483647 : Int32)) % (7 : Int32))), .val (.int (1 : Int32))] [(.int ((p1 &&& (2147483647 : Int32)) % (6 : Int32))), (.ref b3)])) rfl rfl (hb hby at_100) _ ?_
    show Steps p.tables e below (T22.setTop (mkF m 101 #[.val (.int p1), .val (.int p2), .val (.ref b3), .val (.int ((p1 &&& (2147483647 : Int32)) % (6 : Int32))), .val (.int ((p2 &&& (2147483647 : Int32)) % (7 : Int32))), .val (.int (1 : Int32))] [(.ref w23)])) _
    refine XS.aloadN X22.here hx rfl (hb hby at_101) rfl rfl ?_
    show Steps p.tables e below (T22.setTop (mkF m 102 #[.val (.int p1), .val (.int p2), .val (.ref b3), .val (.int ((p1 &&& (2147483647 : Int32)) % (6 : Int32))), .val (.int ((p2 &&& (2147483647 : Int32)) % (7 : Int32))), .val (.int (1 : Int32))] [(.ref b3), (.ref w23)])) _
    refine XS.iload X22.here hx rfl (hb hby at_102) rfl ?_
    show Steps p.tables e below (T22.setTop (mkF m 104 #[.val (.int p1), .val (.int p2), .val (.ref b3), .val (.int ((p1 &&& (2147483647 : Int32)) % (6 : Int32))), .val (.int ((p2 &&& (2147483647 : Int32)) % (7 : Int32))), .val (.int (1 : Int32))] [(.int ((p2 &&& (2147483647 : Int32)) % (7 : Int32))), (.ref b3), (.ref w23)])) _
    refine X22.aaload hx (j := ((p2 &&& (2147483647 : Int32)) % (7 : Int32))) (v := (.ref w24)) (by rw [e22]; exact Ar_b3_104.1) (State.isArrayOf_alike hZ.alike Ar_b3_104.2.1) rfl Ar_b3_104.2.2 hin104 hat104 (g := (mkF m 104 #[.val (.int p1), .val (.int p2), .val (.ref b3), .val (.int ((p1 &&& (2147483647 : Int32)) % (6 : Int32))), .val (.int ((p2 &&& (2147483647 : Int32)) % (7 : Int32))), .val (.int (1 : Int32))] [(.int ((p2 &&& (2147483647 : Int32)) % (7 : Int32))), (.ref b3), (.ref w23)])) rfl rfl (hb hby at_104) _ ?_
    show Steps p.tables e below (T22.setTop (mkF m 105 #[.val (.int p1), .val (.int p2), .val (.ref b3), .val (.int ((p1 &&& (2147483647 : Int32)) % (6 : Int32))), .val (.int ((p2 &&& (2147483647 : Int32)) % (7 : Int32))), .val (.int (1 : Int32))] [(.ref w24), (.ref w23)])) _
    refine st25.trans ?_
    show Steps p.tables e below (T25.setTop (mkF m 108 #[.val (.int p1), .val (.int p2), .val (.ref b3), .val (.int ((p1 &&& (2147483647 : Int32)) % (6 : Int32))), .val (.int ((p2 &&& (2147483647 : Int32)) % (7 : Int32))), .val (.int (1 : Int32))] [(.int r25)])) _
    refine XS.iload X25.here hx rfl (hb hby at_108) rfl ?_
    show Steps p.tables e below (T25.setTop (mkF m 110 #[.val (.int p1), .val (.int p2), .val (.ref b3), .val (.int ((p1 &&& (2147483647 : Int32)) % (6 : Int32))), .val (.int ((p2 &&& (2147483647 : Int32)) % (7 : Int32))), .val (.int (1 : Int32))] [(.int (1 : Int32)), (.int r25)])) _
    refine XS.icmpNo X25.here hx rfl (hb hby at_110) rfl (teq hx1).2 ?_
    show Steps p.tables e below (T25.setTop (mkF m 113 #[.val (.int p1), .val (.int p2), .val (.ref b3), .val (.int ((p1 &&& (2147483647 : Int32)) % (6 : Int32))), .val (.int ((p2 &&& (2147483647 : Int32)) % (7 : Int32))), .val (.int (1 : Int32))] [])) _
    refine XS.iconst X25.here hx rfl (hb hby at_113) ?_
    show Steps p.tables e below (T25.setTop (mkF m 114 #[.val (.int p1), .val (.int p2), .val (.ref b3), .val (.int ((p1 &&& (2147483647 : Int32)) % (6 : Int32))), .val (.int ((p2 &&& (2147483647 : Int32)) % (7 : Int32))), .val (.int (1 : Int32))] [(.int (1 : Int32))])) _
    refine XS.goto X25.here hx rfl (pc0 := 114) (pc' := 118) rfl (hb hby at_114) (by decide) (by decide) ?_
    show Steps p.tables e below (T25.setTop (mkF m 118 #[.val (.int p1), .val (.int p2), .val (.ref b3), .val (.int ((p1 &&& (2147483647 : Int32)) % (6 : Int32))), .val (.int ((p2 &&& (2147483647 : Int32)) % (7 : Int32))), .val (.int (1 : Int32))] [(.int (1 : Int32))])) _
    exact retN X25 hx (t := .boolean) Bd.returns (by simp) (hb hby at_118) hr
  · show Q0_fftf Z p1 p2 w4 w7 w10 w13 w16 w19 w23 w24 h0 n0 _ T25.heap _
    exact ⟨rfl, N25⟩
def Q0_fttf (Z : State) (p1 : Int32) (p2 : Int32) (w4 : Addr) (w7 : Addr) (w10 : Addr) (w13 : Addr) (w16 : Addr) (w19 : Addr) (w23 : Addr) (w24 : Addr) (h0 : Heap) (n0 : Nat) (v : Option Value) (h : Heap) (L : List Loc) : Prop := v = some (.int (1 : Int32)) ∧ Fr n0 L
set_option maxRecDepth 65536 in
set_option maxHeartbeats 40000000 in
theorem rm0_fttf (l : Launch) (Z : State) (a0 : Array Value) (hw : ∀ d ∈ tables_1, d.before a0 Z = true) (ws : List Jvm.Cond) (p1 : Int32) (p2 : Int32) (w4 : Addr) (w7 : Addr) (w10 : Addr) (w13 : Addr) (w16 : Addr) (w19 : Addr) (w23 : Addr) (w24 : Addr) (r25 : Int32) (h0 : Heap) (n0 : Nat) (Z0 : n0 ≤ h0.size) (S_BIGINT : Sta Z h0 "com/example/indexwright/indexwright/sql/ColumnType" "BIGINT" "Lcom/example/indexwright/indexwright/sql/ColumnType;" (.ref w4)) (S_DOUBLE : Sta Z h0 "com/example/indexwright/indexwright/sql/ColumnType" "DOUBLE" "Lcom/example/indexwright/indexwright/sql/ColumnType;" (.ref w7)) (S_VARCHAR : Sta Z h0 "com/example/indexwright/indexwright/sql/ColumnType" "VARCHAR" "Lcom/example/indexwright/indexwright/sql/ColumnType;" (.ref w10)) (S_BIGINT_ARRAY : Sta Z h0 "com/example/indexwright/indexwright/sql/ColumnType" "BIGINT_ARRAY" "Lcom/example/indexwright/indexwright/sql/ColumnType;" (.ref w13)) (S_DOUBLE_ARRAY : Sta Z h0 "com/example/indexwright/indexwright/sql/ColumnType" "DOUBLE_ARRAY" "Lcom/example/indexwright/indexwright/sql/ColumnType;" (.ref w16)) (S_VARCHAR_ARRAY : Sta Z h0 "com/example/indexwright/indexwright/sql/ColumnType" "VARCHAR_ARRAY" "Lcom/example/indexwright/indexwright/sql/ColumnType;" (.ref w19)) (E_w23 : Exa Z h0 w23 "com/example/indexwright/indexwright/sql/ColumnType") (hc67 : ¬ (((p2 &&& (2147483647 : Int32)) % (7 : Int32)) = ((p1 &&& (2147483647 : Int32)) % (6 : Int32)))) (hc72 : ¬ (((p1 &&& (2147483647 : Int32)) % (6 : Int32)) = (1 : Int32))) (hc82 : ¬ (((p1 &&& (2147483647 : Int32)) % (6 : Int32)) = (4 : Int32))) (E_w4 : Exa Z h0 w4 "com/example/indexwright/indexwright/sql/ColumnType") (E_w7 : Exa Z h0 w7 "com/example/indexwright/indexwright/sql/ColumnType") (E_w10 : Exa Z h0 w10 "com/example/indexwright/indexwright/sql/ColumnType") (E_w13 : Exa Z h0 w13 "com/example/indexwright/indexwright/sql/ColumnType") (E_w16 : Exa Z h0 w16 "com/example/indexwright/indexwright/sql/ColumnType") (E_w19 : Exa Z h0 w19 "com/example/indexwright/indexwright/sql/ColumnType") (hj100 : ¬ ((p1 &&& (2147483647 : Int32)) % (6 : Int32)) < 0 ∧ ((p1 &&& (2147483647 : Int32)) % (6 : Int32)) < (7 : Int32)) (hu100 : ([(.ref w4), (.ref w7), (.ref w10), (.ref w13), (.ref w16), (.ref w19), .null] : List Value).getD (((p1 &&& (2147483647 : Int32)) % (6 : Int32))).toNatClampNeg .null = (.ref w23)) (hj104 : ¬ ((p2 &&& (2147483647 : Int32)) % (7 : Int32)) < 0 ∧ ((p2 &&& (2147483647 : Int32)) % (7 : Int32)) < (7 : Int32)) (hu104 : ([(.ref w4), (.ref w7), (.ref w10), (.ref w13), (.ref w16), (.ref w19), .null] : List Value).getD (((p2 &&& (2147483647 : Int32)) % (7 : Int32))).toNatClampNeg .null = (.ref w24)) (hP25 : P1b Z h0 w23 w24 (some (.int r25))) (hx1 : r25 = (0 : Int32)) :
    MetFree l x (head1 (Jvm.Cond.code x code maxLocals ret :: ws) room_1) (fun a U => a = #[(.int p1), (.int p2)] ∧ Z.Warmed39 U.vm ∧ U.heap = h0) (fun _ _ _ _ _ => True) (fun _ U o U' => ∃ v L, o = .returned v ∧ Q0_fttf Z p1 p2 w4 w7 w10 w13 w16 w19 w23 w24 h0 n0 v U'.heap L ∧ FrameEnd U o U' L room_1.cells room_1.slots) := by
  refine MetFree.of_bodySF (plainFor_of_name pn_0) hisR ?_
  intro p e s m args below meth c s₁ Bd hml0 hP hK
  obtain ⟨rfl, hZ, hh⟩ := hP
  have hx := Bd.exec
  have hby := Bd.bytes
  have hml : c.maxLocals = 6 := hml0
  have hown : s.vm.findClass "com/example/indexwright/indexwright/sql/ColumnTypeHoldsPinLaw" = some m.cls := findClass_of_methodNamed Bd.named
  have hnm := (name_of_methodNamed Bd.named Bd.method).1
  have X0 : Stand p l e room_1 s m #[(.int p1), (.int p2)] below meth c s₁ [] 0 0 := Stand.of_body Bd
  have e0 : s₁.heap = h0 := by rw [← hh, Bd.state]; rfl
  have N0 := Fr.nil n0
  have pre0 : ∀ t, Steps p.tables e below (s₁.setTop (mkF m 0 #[.val (.int p1), .val (.int p2), .unset, .unset, .unset, .unset] [])) t → Steps p.tables e below (s₁.setTop (entryFrame m #[(.int p1), (.int p2)] maxLocals)) t := fun t k => castTop (ef_0 m p1 p2) k
  -- 3. LAWS
  obtain ⟨T3, h3, k3, X3, e3, E3, A3, O3, st3⟩ := newR X0 hx hZ hown (hw _ (List.mem_of_getElem? (i := 0) rfl)) (hw _ (List.mem_of_getElem? (i := 1) rfl)) e0 (g := (mkF m 2 #[.val (.int p1), .val (.int p2), .unset, .unset, .unset, .unset] [(.int (7 : Int32))])) rfl (hb hby at_2) rfl (by decide) (cap := 7) (by decide) (by decide) (by decide) (by decide)
  obtain ⟨b3, g3⟩ : ∃ z, z = h0.size := ⟨_, rfl⟩      -- the fresh array's address
  rw [← g3] at A3 st3
  have V_b3 : Arv Z h3 b3 k3 (.object "com/example/indexwright/indexwright/sql/ColumnType") (7 : Int32) [.null, .null, .null, .null, .null, .null, .null] .null := (Arv.new A3 (by decide)).pad (pad_rep [] .null 7)
  have g_b3 : n0 ≤ b3 := Nat.le_trans Z0 (Nat.le_of_eq g3.symm)
  have sz_b3 : h0.size ≤ b3 := (Nat.le_trans (Keep.refl h0 []).1 (Nat.le_of_eq g3.symm))
  have K3 : Keep h0 h3 [] := (Keep.refl h0 []).ext E3
  obtain ⟨T5, X5, e5, st5⟩ := getS2 X3 hx hZ hown (host := "") (Or.inl (hw _ (List.mem_of_getElem? (i := 2) rfl))) Via.refl e3 (own_stak S_BIGINT K3) (g := (mkF m 7 #[.val (.int p1), .val (.int p2), .unset, .unset, .unset, .unset] [(.int (0 : Int32)), (.ref b3), (.ref b3)])) rfl (hb hby at_7)
  -- Sto10: the object may lie in that array: Sto.of Ar.. (an 'Ovr', by the sheet's words) (an 'Ins' of its class), Shelf42/RW6; carried by Sto.ext E.. | Sto.wr W..
  obtain ⟨cl_10, Ar_b3, q_b3, S_b3, N_b3, H_b3, G_b3⟩ := V_b3
  have hin10 := inb_of (j := (0 : Int32)) S_b3 ⟨by decide, by decide⟩
  have Sto10 := Sto.ofV Ar_b3 q_b3 O3 (Ins.self (E_w4.keep K3))
  obtain ⟨T6, h6, X6, e6, W6, st6⟩ := stR X5 hx hZ e5 Ar_b3 (j := (0 : Int32)) hin10 rfl Sto10 (g := (mkF m 10 #[.val (.int p1), .val (.int p2), .unset, .unset, .unset, .unset] [(.ref w4), (.int (0 : Int32)), (.ref b3), (.ref b3)])) rfl rfl (hb hby at_10)
  have V_b3_6 : Arv Z h6 b3 _ (.object "com/example/indexwright/indexwright/sql/ColumnType") (7 : Int32) [(.ref w4), .null, .null, .null, .null, .null, .null] .null := Arv.set Ar_b3 q_b3 S_b3 N_b3 H_b3 G_b3 rfl W6 0 rfl (Nat.le_of_ble_eq_true rfl)
  have N6 := Fr.snoc X6 N0 g_b3
  -- Ar_b3.same W6 : the array with (.ref w4) at the place (0 : Int32)
  have K6 : Keep h0 h6 [] := K3.wr W6 (Or.inr sz_b3)
  obtain ⟨T8, X8, e8, st8⟩ := getS2 X6 hx hZ hown (host := "") (Or.inl (hw _ (List.mem_of_getElem? (i := 6) rfl))) Via.refl e6 (own_stak S_DOUBLE K6) (g := (mkF m 13 #[.val (.int p1), .val (.int p2), .unset, .unset, .unset, .unset] [(.int (1 : Int32)), (.ref b3), (.ref b3)])) rfl (hb hby at_13)
  -- Sto16: the object may lie in that array: Sto.of Ar.. (an 'Ovr', by the sheet's words) (an 'Ins' of its class), Shelf42/RW6; carried by Sto.ext E.. | Sto.wr W..
  obtain ⟨cl_16, Ar_b3, q_b3, S_b3, N_b3, H_b3, G_b3⟩ := V_b3_6
  have hin16 := inb_of (j := (1 : Int32)) S_b3 ⟨by decide, by decide⟩
  have Sto16 := Sto.ofV Ar_b3 q_b3 O3 (Ins.self (E_w7.keep K6))
  obtain ⟨T9, h9, X9, e9, W9, st9⟩ := stR X8 hx hZ e8 Ar_b3 (j := (1 : Int32)) hin16 rfl Sto16 (g := (mkF m 16 #[.val (.int p1), .val (.int p2), .unset, .unset, .unset, .unset] [(.ref w7), (.int (1 : Int32)), (.ref b3), (.ref b3)])) rfl rfl (hb hby at_16)
  have V_b3_9 : Arv Z h9 b3 _ (.object "com/example/indexwright/indexwright/sql/ColumnType") (7 : Int32) [(.ref w4), (.ref w7), .null, .null, .null, .null, .null] .null := Arv.set Ar_b3 q_b3 S_b3 N_b3 H_b3 G_b3 rfl W9 1 rfl (Nat.le_of_ble_eq_true rfl)
  have N9 := Fr.snoc X9 N6 g_b3
  -- Ar_b3.same W9 : the array with (.ref w7) at the place (1 : Int32)
  have K9 : Keep h0 h9 [] := K6.wr W9 (Or.inr sz_b3)
  obtain ⟨T11, X11, e11, st11⟩ := getS2 X9 hx hZ hown (host := "") (Or.inl (hw _ (List.mem_of_getElem? (i := 8) rfl))) Via.refl e9 (own_stak S_VARCHAR K9) (g := (mkF m 19 #[.val (.int p1), .val (.int p2), .unset, .unset, .unset, .unset] [(.int (2 : Int32)), (.ref b3), (.ref b3)])) rfl (hb hby at_19)
  -- Sto22: the object may lie in that array: Sto.of Ar.. (an 'Ovr', by the sheet's words) (an 'Ins' of its class), Shelf42/RW6; carried by Sto.ext E.. | Sto.wr W..
  obtain ⟨cl_22, Ar_b3, q_b3, S_b3, N_b3, H_b3, G_b3⟩ := V_b3_9
  have hin22 := inb_of (j := (2 : Int32)) S_b3 ⟨by decide, by decide⟩
  have Sto22 := Sto.ofV Ar_b3 q_b3 O3 (Ins.self (E_w10.keep K9))
  obtain ⟨T12, h12, X12, e12, W12, st12⟩ := stR X11 hx hZ e11 Ar_b3 (j := (2 : Int32)) hin22 rfl Sto22 (g := (mkF m 22 #[.val (.int p1), .val (.int p2), .unset, .unset, .unset, .unset] [(.ref w10), (.int (2 : Int32)), (.ref b3), (.ref b3)])) rfl rfl (hb hby at_22)
  have V_b3_12 : Arv Z h12 b3 _ (.object "com/example/indexwright/indexwright/sql/ColumnType") (7 : Int32) [(.ref w4), (.ref w7), (.ref w10), .null, .null, .null, .null] .null := Arv.set Ar_b3 q_b3 S_b3 N_b3 H_b3 G_b3 rfl W12 2 rfl (Nat.le_of_ble_eq_true rfl)
  have N12 := Fr.snoc X12 N9 g_b3
  -- Ar_b3.same W12 : the array with (.ref w10) at the place (2 : Int32)
  have K12 : Keep h0 h12 [] := K9.wr W12 (Or.inr sz_b3)
  obtain ⟨T14, X14, e14, st14⟩ := getS2 X12 hx hZ hown (host := "") (Or.inl (hw _ (List.mem_of_getElem? (i := 10) rfl))) Via.refl e12 (own_stak S_BIGINT_ARRAY K12) (g := (mkF m 25 #[.val (.int p1), .val (.int p2), .unset, .unset, .unset, .unset] [(.int (3 : Int32)), (.ref b3), (.ref b3)])) rfl (hb hby at_25)
  -- Sto28: the object may lie in that array: Sto.of Ar.. (an 'Ovr', by the sheet's words) (an 'Ins' of its class), Shelf42/RW6; carried by Sto.ext E.. | Sto.wr W..
  obtain ⟨cl_28, Ar_b3, q_b3, S_b3, N_b3, H_b3, G_b3⟩ := V_b3_12
  have hin28 := inb_of (j := (3 : Int32)) S_b3 ⟨by decide, by decide⟩
  have Sto28 := Sto.ofV Ar_b3 q_b3 O3 (Ins.self (E_w13.keep K12))
  obtain ⟨T15, h15, X15, e15, W15, st15⟩ := stR X14 hx hZ e14 Ar_b3 (j := (3 : Int32)) hin28 rfl Sto28 (g := (mkF m 28 #[.val (.int p1), .val (.int p2), .unset, .unset, .unset, .unset] [(.ref w13), (.int (3 : Int32)), (.ref b3), (.ref b3)])) rfl rfl (hb hby at_28)
  have V_b3_15 : Arv Z h15 b3 _ (.object "com/example/indexwright/indexwright/sql/ColumnType") (7 : Int32) [(.ref w4), (.ref w7), (.ref w10), (.ref w13), .null, .null, .null] .null := Arv.set Ar_b3 q_b3 S_b3 N_b3 H_b3 G_b3 rfl W15 3 rfl (Nat.le_of_ble_eq_true rfl)
  have N15 := Fr.snoc X15 N12 g_b3
  -- Ar_b3.same W15 : the array with (.ref w13) at the place (3 : Int32)
  have K15 : Keep h0 h15 [] := K12.wr W15 (Or.inr sz_b3)
  obtain ⟨T17, X17, e17, st17⟩ := getS2 X15 hx hZ hown (host := "") (Or.inl (hw _ (List.mem_of_getElem? (i := 12) rfl))) Via.refl e15 (own_stak S_DOUBLE_ARRAY K15) (g := (mkF m 31 #[.val (.int p1), .val (.int p2), .unset, .unset, .unset, .unset] [(.int (4 : Int32)), (.ref b3), (.ref b3)])) rfl (hb hby at_31)
  -- Sto34: the object may lie in that array: Sto.of Ar.. (an 'Ovr', by the sheet's words) (an 'Ins' of its class), Shelf42/RW6; carried by Sto.ext E.. | Sto.wr W..
  obtain ⟨cl_34, Ar_b3, q_b3, S_b3, N_b3, H_b3, G_b3⟩ := V_b3_15
  have hin34 := inb_of (j := (4 : Int32)) S_b3 ⟨by decide, by decide⟩
  have Sto34 := Sto.ofV Ar_b3 q_b3 O3 (Ins.self (E_w16.keep K15))
  obtain ⟨T18, h18, X18, e18, W18, st18⟩ := stR X17 hx hZ e17 Ar_b3 (j := (4 : Int32)) hin34 rfl Sto34 (g := (mkF m 34 #[.val (.int p1), .val (.int p2), .unset, .unset, .unset, .unset] [(.ref w16), (.int (4 : Int32)), (.ref b3), (.ref b3)])) rfl rfl (hb hby at_34)
  have V_b3_18 : Arv Z h18 b3 _ (.object "com/example/indexwright/indexwright/sql/ColumnType") (7 : Int32) [(.ref w4), (.ref w7), (.ref w10), (.ref w13), (.ref w16), .null, .null] .null := Arv.set Ar_b3 q_b3 S_b3 N_b3 H_b3 G_b3 rfl W18 4 rfl (Nat.le_of_ble_eq_true rfl)
  have N18 := Fr.snoc X18 N15 g_b3
  -- Ar_b3.same W18 : the array with (.ref w16) at the place (4 : Int32)
  have K18 : Keep h0 h18 [] := K15.wr W18 (Or.inr sz_b3)
  obtain ⟨T20, X20, e20, st20⟩ := getS2 X18 hx hZ hown (host := "") (Or.inl (hw _ (List.mem_of_getElem? (i := 14) rfl))) Via.refl e18 (own_stak S_VARCHAR_ARRAY K18) (g := (mkF m 37 #[.val (.int p1), .val (.int p2), .unset, .unset, .unset, .unset] [(.int (5 : Int32)), (.ref b3), (.ref b3)])) rfl (hb hby at_37)
  -- Sto40: the object may lie in that array: Sto.of Ar.. (an 'Ovr', by the sheet's words) (an 'Ins' of its class), Shelf42/RW6; carried by Sto.ext E.. | Sto.wr W..
  obtain ⟨cl_40, Ar_b3, q_b3, S_b3, N_b3, H_b3, G_b3⟩ := V_b3_18
  have hin40 := inb_of (j := (5 : Int32)) S_b3 ⟨by decide, by decide⟩
  have Sto40 := Sto.ofV Ar_b3 q_b3 O3 (Ins.self (E_w19.keep K18))
  obtain ⟨T21, h21, X21, e21, W21, st21⟩ := stR X20 hx hZ e20 Ar_b3 (j := (5 : Int32)) hin40 rfl Sto40 (g := (mkF m 40 #[.val (.int p1), .val (.int p2), .unset, .unset, .unset, .unset] [(.ref w19), (.int (5 : Int32)), (.ref b3), (.ref b3)])) rfl rfl (hb hby at_40)
  have V_b3_21 : Arv Z h21 b3 _ (.object "com/example/indexwright/indexwright/sql/ColumnType") (7 : Int32) [(.ref w4), (.ref w7), (.ref w10), (.ref w13), (.ref w16), (.ref w19), .null] .null := Arv.set Ar_b3 q_b3 S_b3 N_b3 H_b3 G_b3 rfl W21 5 rfl (Nat.le_of_ble_eq_true rfl)
  have N21 := Fr.snoc X21 N18 g_b3
  -- Ar_b3.same W21 : the array with (.ref w19) at the place (5 : Int32)
  have K21 : Keep h0 h21 [] := K18.wr W21 (Or.inr sz_b3)
  obtain ⟨cl_45, Ar_b3, q_b3, S_b3, N_b3, H_b3, G_b3⟩ := V_b3_21
  have hin45 := inb_of (j := (6 : Int32)) S_b3 ⟨by decide, by decide⟩
  obtain ⟨T22, h22, X22, e22, W22, st22⟩ := stR X21 hx hZ e21 Ar_b3 (j := (6 : Int32)) hin45 rfl (Or.inl rfl) (g := (mkF m 45 #[.val (.int p1), .val (.int p2), .unset, .unset, .unset, .unset] [.null, (.int (6 : Int32)), (.ref b3), (.ref b3)])) rfl rfl (hb hby at_45)
  have V_b3_22 : Arv Z h22 b3 _ (.object "com/example/indexwright/indexwright/sql/ColumnType") (7 : Int32) [(.ref w4), (.ref w7), (.ref w10), (.ref w13), (.ref w16), (.ref w19), .null] .null := Arv.set Ar_b3 q_b3 S_b3 N_b3 H_b3 G_b3 rfl W22 6 rfl (Nat.le_of_ble_eq_true rfl)
  have N22 := Fr.snoc X22 N21 g_b3
  -- Ar_b3.same W22 : the array with .null at the place (6 : Int32)
  have K22 : Keep h0 h22 [] := K21.wr W22 (Or.inr sz_b3)
  obtain ⟨cl_100, Ar_b3_100, q_b3, S_b3, N_b3, H_b3, G_b3⟩ := V_b3_22
  have hin100 := inb_of S_b3 hj100
  have hat100 := H_b3.at hin100 hu100
  have V_b3_p100 : Arv Z h22 b3 _ (.object "com/example/indexwright/indexwright/sql/ColumnType") (7 : Int32) [(.ref w4), (.ref w7), (.ref w10), (.ref w13), (.ref w16), (.ref w19), .null] .null := ⟨cl_100, Ar_b3_100, q_b3, S_b3, N_b3, H_b3, G_b3⟩
  obtain ⟨cl_104, Ar_b3_104, q_b3, S_b3, N_b3, H_b3, G_b3⟩ := V_b3_p100
  have hin104 := inb_of S_b3 hj104
  have hat104 := H_b3.at hin104 hu104
  have V_b3_p104 : Arv Z h22 b3 _ (.object "com/example/indexwright/indexwright/sql/ColumnType") (7 : Int32) [(.ref w4), (.ref w7), (.ref w10), (.ref w13), (.ref w16), (.ref w19), .null] .null := ⟨cl_104, Ar_b3_104, q_b3, S_b3, N_b3, H_b3, G_b3⟩
  -- pc 105: com/example/indexwright/indexwright/sql/ColumnType.holds by the contract of the body that the receiver's class selects, rm1
  obtain ⟨cq25, kq25, q25a, q25b, q25c⟩ := isOf hZ e22 (E_w23.keep K22)
  obtain ⟨_, _, ⟨T25, L25, k25, n25⟩, -, X25, ⟨Lc25, hQ25, l25, y25, z25⟩, st25⟩ := X22.virtualBack hx (y := (⟨"com/example/indexwright/indexwright/sql/ColumnType", "holds", "(Lcom/example/indexwright/indexwright/sql/ColumnType;)Z"⟩ : MethodName)) (z := (⟨"com/example/indexwright/indexwright/sql/ColumnType", "holds", "(Lcom/example/indexwright/indexwright/sql/ColumnType;)Z"⟩ : MethodName)) hown (mvT hZ (hw _ (List.mem_of_getElem? (i := 17) rfl))) (mvT hZ (hw _ (List.mem_of_getElem? (i := 18) rfl))) (notFace_of_selects (args := #[]) (mvT hZ (hw _ (List.mem_of_getElem? (i := 20) rfl)))) (mvT hZ (hw _ (List.mem_of_getElem? (i := 20) rfl))) (mvT hZ (hw _ (List.mem_of_getElem? (i := 19) rfl))) (by decide) (backOf (W := 0) (own_1b l Z a0 hw [] w23 w24 (some (.int r25)) h22 n0 (Nat.le_trans Z0 K22.1) (P1b_keep K22 hP25)) hZ (hw _ (List.mem_of_getElem? (i := 21) rfl)) (hw _ (List.mem_of_getElem? (i := 3) rfl)) (by decide) (by decide)) q25a q25c (g := (mkF m 105 #[.val (.int p1), .val (.int p2), .val (.ref b3), .val (.int ((p1 &&& (2147483647 : Int32)) % (6 : Int32))), .val (.int ((p2 &&& (2147483647 : Int32)) % (7 : Int32))), .val (.int (0 : Int32))] [(.ref w24), (.ref w23)])) rfl (by rw [hml]; rfl) (Steps.refl _) (argsL := [(.ref w24)]) (rest := []) (lenOf pd_0_0 rfl) rfl (by show 2 * 0 + _ ≤ _; exact Nat.le_of_eq rfl) (hb hby at_105) (fun _ _ => ⟨rfl, e22, (by decide : 1 + 0 ≤ _), (by decide : 7 + 0 ≤ _)⟩)
  dsimp only [Pt.U, Pt.locs, Pt.cells, Pt.slots] at X25 l25 y25 z25 st25 hQ25
  subst l25 y25 z25
  obtain ⟨rfl, N25q, e25⟩ := hQ25      -- what it returned, that it wrote nothing old, and the rest of your Q1
  have N25 := Fr.app N22 N25q
  obtain ⟨fs, hr, hrun, hended, hW, hsame⟩ := X25.leave (v := some (.int (1 : Int32))) (fun h => by rw [Bd.returns] at h; cases h)
  refine ⟨_, _, pre0 _ ?_, hrun, hended, _, _, rfl, ?_, ⟨_, rfl⟩, hW, hsame.mono (by decide) (by decide)⟩
  -- 4. STEPS
  · show Steps p.tables e below (s₁.setTop (mkF m 0 #[.val (.int p1), .val (.int p2), .unset, .unset, .unset, .unset] [])) _
    refine XS.bipush X0.here hx rfl (hb hby at_0) ?_
    show Steps p.tables e below (s₁.setTop (mkF m 2 #[.val (.int p1), .val (.int p2), .unset, .unset, .unset, .unset] [(.int (7 : Int32))])) _
    refine st3 _ ?_
    show Steps p.tables e below (T3.setTop (mkF m 5 #[.val (.int p1), .val (.int p2), .unset, .unset, .unset, .unset] [(.ref b3)])) _
    refine XS.dup X3.here hx rfl (hb hby at_5) rfl rfl ?_
    show Steps p.tables e below (T3.setTop (mkF m 6 #[.val (.int p1), .val (.int p2), .unset, .unset, .unset, .unset] [(.ref b3), (.ref b3)])) _
    refine XS.iconst X3.here hx rfl (hb hby at_6) ?_
    show Steps p.tables e below (T3.setTop (mkF m 7 #[.val (.int p1), .val (.int p2), .unset, .unset, .unset, .unset] [(.int (0 : Int32)), (.ref b3), (.ref b3)])) _
    refine st5 _ ?_
    show Steps p.tables e below (T5.setTop (mkF m 10 #[.val (.int p1), .val (.int p2), .unset, .unset, .unset, .unset] [(.ref w4), (.int (0 : Int32)), (.ref b3), (.ref b3)])) _
    refine st6 _ ?_
    show Steps p.tables e below (T6.setTop (mkF m 11 #[.val (.int p1), .val (.int p2), .unset, .unset, .unset, .unset] [(.ref b3)])) _
    refine XS.dup X6.here hx rfl (hb hby at_11) rfl rfl ?_
    show Steps p.tables e below (T6.setTop (mkF m 12 #[.val (.int p1), .val (.int p2), .unset, .unset, .unset, .unset] [(.ref b3), (.ref b3)])) _
    refine XS.iconst X6.here hx rfl (hb hby at_12) ?_
    show Steps p.tables e below (T6.setTop (mkF m 13 #[.val (.int p1), .val (.int p2), .unset, .unset, .unset, .unset] [(.int (1 : Int32)), (.ref b3), (.ref b3)])) _
    refine st8 _ ?_
    show Steps p.tables e below (T8.setTop (mkF m 16 #[.val (.int p1), .val (.int p2), .unset, .unset, .unset, .unset] [(.ref w7), (.int (1 : Int32)), (.ref b3), (.ref b3)])) _
    refine st9 _ ?_
    show Steps p.tables e below (T9.setTop (mkF m 17 #[.val (.int p1), .val (.int p2), .unset, .unset, .unset, .unset] [(.ref b3)])) _
    refine XS.dup X9.here hx rfl (hb hby at_17) rfl rfl ?_
    show Steps p.tables e below (T9.setTop (mkF m 18 #[.val (.int p1), .val (.int p2), .unset, .unset, .unset, .unset] [(.ref b3), (.ref b3)])) _
    refine XS.iconst X9.here hx rfl (hb hby at_18) ?_
    show Steps p.tables e below (T9.setTop (mkF m 19 #[.val (.int p1), .val (.int p2), .unset, .unset, .unset, .unset] [(.int (2 : Int32)), (.ref b3), (.ref b3)])) _
    refine st11 _ ?_
    show Steps p.tables e below (T11.setTop (mkF m 22 #[.val (.int p1), .val (.int p2), .unset, .unset, .unset, .unset] [(.ref w10), (.int (2 : Int32)), (.ref b3), (.ref b3)])) _
    refine st12 _ ?_
    show Steps p.tables e below (T12.setTop (mkF m 23 #[.val (.int p1), .val (.int p2), .unset, .unset, .unset, .unset] [(.ref b3)])) _
    refine XS.dup X12.here hx rfl (hb hby at_23) rfl rfl ?_
    show Steps p.tables e below (T12.setTop (mkF m 24 #[.val (.int p1), .val (.int p2), .unset, .unset, .unset, .unset] [(.ref b3), (.ref b3)])) _
    refine XS.iconst X12.here hx rfl (hb hby at_24) ?_
    show Steps p.tables e below (T12.setTop (mkF m 25 #[.val (.int p1), .val (.int p2), .unset, .unset, .unset, .unset] [(.int (3 : Int32)), (.ref b3), (.ref b3)])) _
    refine st14 _ ?_
    show Steps p.tables e below (T14.setTop (mkF m 28 #[.val (.int p1), .val (.int p2), .unset, .unset, .unset, .unset] [(.ref w13), (.int (3 : Int32)), (.ref b3), (.ref b3)])) _
    refine st15 _ ?_
    show Steps p.tables e below (T15.setTop (mkF m 29 #[.val (.int p1), .val (.int p2), .unset, .unset, .unset, .unset] [(.ref b3)])) _
    refine XS.dup X15.here hx rfl (hb hby at_29) rfl rfl ?_
    show Steps p.tables e below (T15.setTop (mkF m 30 #[.val (.int p1), .val (.int p2), .unset, .unset, .unset, .unset] [(.ref b3), (.ref b3)])) _
    refine XS.iconst X15.here hx rfl (hb hby at_30) ?_
    show Steps p.tables e below (T15.setTop (mkF m 31 #[.val (.int p1), .val (.int p2), .unset, .unset, .unset, .unset] [(.int (4 : Int32)), (.ref b3), (.ref b3)])) _
    refine st17 _ ?_
    show Steps p.tables e below (T17.setTop (mkF m 34 #[.val (.int p1), .val (.int p2), .unset, .unset, .unset, .unset] [(.ref w16), (.int (4 : Int32)), (.ref b3), (.ref b3)])) _
    refine st18 _ ?_
    show Steps p.tables e below (T18.setTop (mkF m 35 #[.val (.int p1), .val (.int p2), .unset, .unset, .unset, .unset] [(.ref b3)])) _
    refine XS.dup X18.here hx rfl (hb hby at_35) rfl rfl ?_
    show Steps p.tables e below (T18.setTop (mkF m 36 #[.val (.int p1), .val (.int p2), .unset, .unset, .unset, .unset] [(.ref b3), (.ref b3)])) _
    refine XS.iconst X18.here hx rfl (hb hby at_36) ?_
    show Steps p.tables e below (T18.setTop (mkF m 37 #[.val (.int p1), .val (.int p2), .unset, .unset, .unset, .unset] [(.int (5 : Int32)), (.ref b3), (.ref b3)])) _
    refine st20 _ ?_
    show Steps p.tables e below (T20.setTop (mkF m 40 #[.val (.int p1), .val (.int p2), .unset, .unset, .unset, .unset] [(.ref w19), (.int (5 : Int32)), (.ref b3), (.ref b3)])) _
    refine st21 _ ?_
    show Steps p.tables e below (T21.setTop (mkF m 41 #[.val (.int p1), .val (.int p2), .unset, .unset, .unset, .unset] [(.ref b3)])) _
    refine XS.dup X21.here hx rfl (hb hby at_41) rfl rfl ?_
    show Steps p.tables e below (T21.setTop (mkF m 42 #[.val (.int p1), .val (.int p2), .unset, .unset, .unset, .unset] [(.ref b3), (.ref b3)])) _
    refine XS.bipush X21.here hx rfl (hb hby at_42) ?_
    show Steps p.tables e below (T21.setTop (mkF m 44 #[.val (.int p1), .val (.int p2), .unset, .unset, .unset, .unset] [(.int (6 : Int32)), (.ref b3), (.ref b3)])) _
    refine XS.aconstNull X21.here hx rfl (hb hby at_44) ?_
    show Steps p.tables e below (T21.setTop (mkF m 45 #[.val (.int p1), .val (.int p2), .unset, .unset, .unset, .unset] [.null, (.int (6 : Int32)), (.ref b3), (.ref b3)])) _
    refine st22 _ ?_
    show Steps p.tables e below (T22.setTop (mkF m 46 #[.val (.int p1), .val (.int p2), .unset, .unset, .unset, .unset] [(.ref b3)])) _
    refine XS.astoreN X22.here hx rfl (hb hby at_46) rfl rfl (l' := #[.val (.int p1), .val (.int p2), .val (.ref b3), .unset, .unset, .unset]) rfl ?_
    show Steps p.tables e below (T22.setTop (mkF m 47 #[.val (.int p1), .val (.int p2), .val (.ref b3), .unset, .unset, .unset] [])) _
    refine XS.iloadN X22.here hx rfl (hb hby at_47) rfl ?_
    show Steps p.tables e below (T22.setTop (mkF m 48 #[.val (.int p1), .val (.int p2), .val (.ref b3), .unset, .unset, .unset] [(.int p1)])) _
    refine X22.ldcInt hx hown (mvT hZ (hw _ (List.mem_of_getElem? (i := 16) rfl))) (g := (mkF m 48 #[.val (.int p1), .val (.int p2), .val (.ref b3), .unset, .unset, .unset] [(.int p1)])) rfl (hb hby at_48) _ ?_
    show Steps p.tables e below (T22.setTop (mkF m 50 #[.val (.int p1), .val (.int p2), .val (.ref b3), .unset, .unset, .unset] [(.int (2147483647 : Int32)), (.int p1)])) _
    refine XS.iand X22.here hx rfl (hb hby at_50) rfl ?_
    show Steps p.tables e below (T22.setTop (mkF m 51 #[.val (.int p1), .val (.int p2), .val (.ref b3), .unset, .unset, .unset] [(.int (p1 &&& (2147483647 : Int32)))])) _
    refine XS.bipush X22.here hx rfl (hb hby at_51) ?_
    show Steps p.tables e below (T22.setTop (mkF m 53 #[.val (.int p1), .val (.int p2), .val (.ref b3), .unset, .unset, .unset] [(.int (6 : Int32)), (.int (p1 &&& (2147483647 : Int32)))])) _
    refine Jvm.RoadKit.iremM X22 hx rfl (hb hby at_53) rfl (by decide) ?_
    show Steps p.tables e below (T22.setTop (mkF m 54 #[.val (.int p1), .val (.int p2), .val (.ref b3), .unset, .unset, .unset] [(.int ((p1 &&& (2147483647 : Int32)) % (6 : Int32)))])) _
    refine XS.istoreN X22.here hx rfl (hb hby at_54) rfl (l' := #[.val (.int p1), .val (.int p2), .val (.ref b3), .val (.int ((p1 &&& (2147483647 : Int32)) % (6 : Int32))), .unset, .unset]) rfl ?_
    show Steps p.tables e below (T22.setTop (mkF m 55 #[.val (.int p1), .val (.int p2), .val (.ref b3), .val (.int ((p1 &&& (2147483647 : Int32)) % (6 : Int32))), .unset, .unset] [])) _
    refine XS.iloadN X22.here hx rfl (hb hby at_55) rfl ?_
    show Steps p.tables e below (T22.setTop (mkF m 56 #[.val (.int p1), .val (.int p2), .val (.ref b3), .val (.int ((p1 &&& (2147483647 : Int32)) % (6 : Int32))), .unset, .unset] [(.int p2)])) _
    refine X22.ldcInt hx hown (mvT hZ (hw _ (List.mem_of_getElem? (i := 16) rfl))) (g := (mkF m 56 #[.val (.int p1), .val (.int p2), .val (.ref b3), .val (.int ((p1 &&& (2147483647 : Int32)) % (6 : Int32))), .unset, .unset] [(.int p2)])) rfl (hb hby at_56) _ ?_
    show Steps p.tables e below (T22.setTop (mkF m 58 #[.val (.int p1), .val (.int p2), .val (.ref b3), .val (.int ((p1 &&& (2147483647 : Int32)) % (6 : Int32))), .unset, .unset] [(.int (2147483647 : Int32)), (.int p2)])) _
    refine XS.iand X22.here hx rfl (hb hby at_58) rfl ?_
    show Steps p.tables e below (T22.setTop (mkF m 59 #[.val (.int p1), .val (.int p2), .val (.ref b3), .val (.int ((p1 &&& (2147483647 : Int32)) % (6 : Int32))), .unset, .unset] [(.int (p2 &&& (2147483647 : Int32)))])) _
    refine XS.bipush X22.here hx rfl (hb hby at_59) ?_
    show Steps p.tables e below (T22.setTop (mkF m 61 #[.val (.int p1), .val (.int p2), .val (.ref b3), .val (.int ((p1 &&& (2147483647 : Int32)) % (6 : Int32))), .unset, .unset] [(.int (7 : Int32)), (.int (p2 &&& (2147483647 : Int32)))])) _
    refine Jvm.RoadKit.iremM X22 hx rfl (hb hby at_61) rfl (by decide) ?_
    show Steps p.tables e below (T22.setTop (mkF m 62 #[.val (.int p1), .val (.int p2), .val (.ref b3), .val (.int ((p1 &&& (2147483647 : Int32)) % (6 : Int32))), .unset, .unset] [(.int ((p2 &&& (2147483647 : Int32)) % (7 : Int32)))])) _
    refine XS.istore X22.here hx rfl (hb hby at_62) rfl (l' := #[.val (.int p1), .val (.int p2), .val (.ref b3), .val (.int ((p1 &&& (2147483647 : Int32)) % (6 : Int32))), .val (.int ((p2 &&& (2147483647 : Int32)) % (7 : Int32))), .unset]) rfl ?_
    show Steps p.tables e below (T22.setTop (mkF m 64 #[.val (.int p1), .val (.int p2), .val (.ref b3), .val (.int ((p1 &&& (2147483647 : Int32)) % (6 : Int32))), .val (.int ((p2 &&& (2147483647 : Int32)) % (7 : Int32))), .unset] [])) _
    refine XS.iload X22.here hx rfl (hb hby at_64) rfl ?_
    show Steps p.tables e below (T22.setTop (mkF m 66 #[.val (.int p1), .val (.int p2), .val (.ref b3), .val (.int ((p1 &&& (2147483647 : Int32)) % (6 : Int32))), .val (.int ((p2 &&& (2147483647 : Int32)) % (7 : Int32))), .unset] [(.int ((p2 &&& (2147483647 : Int32)) % (7 : Int32)))])) _
    refine XS.iloadN X22.here hx rfl (hb hby at_66) rfl ?_
    show Steps p.tables e below (T22.setTop (mkF m 67 #[.val (.int p1), .val (.int p2), .val (.ref b3), .val (.int ((p1 &&& (2147483647 : Int32)) % (6 : Int32))), .val (.int ((p2 &&& (2147483647 : Int32)) % (7 : Int32))), .unset] [(.int ((p1 &&& (2147483647 : Int32)) % (6 : Int32))), (.int ((p2 &&& (2147483647 : Int32)) % (7 : Int32)))])) _
    refine XS.icmpNo X22.here hx rfl (hb hby at_67) rfl (feq hc67).1 ?_
    show Steps p.tables e below (T22.setTop (mkF m 70 #[.val (.int p1), .val (.int p2), .val (.ref b3), .val (.int ((p1 &&& (2147483647 : Int32)) % (6 : Int32))), .val (.int ((p2 &&& (2147483647 : Int32)) % (7 : Int32))), .unset] [])) _
    refine XS.iloadN X22.here hx rfl (hb hby at_70) rfl ?_
    show Steps p.tables e below (T22.setTop (mkF m 71 #[.val (.int p1), .val (.int p2), .val (.ref b3), .val (.int ((p1 &&& (2147483647 : Int32)) % (6 : Int32))), .val (.int ((p2 &&& (2147483647 : Int32)) % (7 : Int32))), .unset] [(.int ((p1 &&& (2147483647 : Int32)) % (6 : Int32)))])) _
    refine XS.iconst X22.here hx rfl (hb hby at_71) ?_
    show Steps p.tables e below (T22.setTop (mkF m 72 #[.val (.int p1), .val (.int p2), .val (.ref b3), .val (.int ((p1 &&& (2147483647 : Int32)) % (6 : Int32))), .val (.int ((p2 &&& (2147483647 : Int32)) % (7 : Int32))), .unset] [(.int (1 : Int32)), (.int ((p1 &&& (2147483647 : Int32)) % (6 : Int32)))])) _
    refine XS.icmpYes X22.here hx rfl (pc0 := 72) (pc' := 80) rfl (hb hby at_72) rfl (feq hc72).2 (by decide) (by decide) ?_
    show Steps p.tables e below (T22.setTop (mkF m 80 #[.val (.int p1), .val (.int p2), .val (.ref b3), .val (.int ((p1 &&& (2147483647 : Int32)) % (6 : Int32))), .val (.int ((p2 &&& (2147483647 : Int32)) % (7 : Int32))), .unset] [])) _
    refine XS.iloadN X22.here hx rfl (hb hby at_80) rfl ?_
    show Steps p.tables e below (T22.setTop (mkF m 81 #[.val (.int p1), .val (.int p2), .val (.ref b3), .val (.int ((p1 &&& (2147483647 : Int32)) % (6 : Int32))), .val (.int ((p2 &&& (2147483647 : Int32)) % (7 : Int32))), .unset] [(.int ((p1 &&& (2147483647 : Int32)) % (6 : Int32)))])) _
    refine XS.iconst X22.here hx rfl (hb hby at_81) ?_
    show Steps p.tables e below (T22.setTop (mkF m 82 #[.val (.int p1), .val (.int p2), .val (.ref b3), .val (.int ((p1 &&& (2147483647 : Int32)) % (6 : Int32))), .val (.int ((p2 &&& (2147483647 : Int32)) % (7 : Int32))), .unset] [(.int (4 : Int32)), (.int ((p1 &&& (2147483647 : Int32)) % (6 : Int32)))])) _
    refine XS.icmpYes X22.here hx rfl (pc0 := 82) (pc' := 95) rfl (hb hby at_82) rfl (feq hc82).2 (by decide) (by decide) ?_
    show Steps p.tables e below (T22.setTop (mkF m 95 #[.val (.int p1), .val (.int p2), .val (.ref b3), .val (.int ((p1 &&& (2147483647 : Int32)) % (6 : Int32))), .val (.int ((p2 &&& (2147483647 : Int32)) % (7 : Int32))), .unset] [])) _
    refine XS.iconst X22.here hx rfl (hb hby at_95) ?_
    show Steps p.tables e below (T22.setTop (mkF m 96 #[.val (.int p1), .val (.int p2), .val (.ref b3), .val (.int ((p1 &&& (2147483647 : Int32)) % (6 : Int32))), .val (.int ((p2 &&& (2147483647 : Int32)) % (7 : Int32))), .unset] [(.int (0 : Int32))])) _
    refine XS.istore X22.here hx rfl (hb hby at_96) rfl (l' := #[.val (.int p1), .val (.int p2), .val (.ref b3), .val (.int ((p1 &&& (2147483647 : Int32)) % (6 : Int32))), .val (.int ((p2 &&& (2147483647 : Int32)) % (7 : Int32))), .val (.int (0 : Int32))]) rfl ?_
    show Steps p.tables e below (T22.setTop (mkF m 98 #[.val (.int p1), .val (.int p2), .val (.ref b3), .val (.int ((p1 &&& (2147483647 : Int32)) % (6 : Int32))), .val (.int ((p2 &&& (2147483647 : Int32)) % (7 : Int32))), .val (.int (0 : Int32))] [])) _
    refine XS.aloadN X22.here hx rfl (hb hby at_98) rfl rfl ?_
    show Steps p.tables e below (T22.setTop (mkF m 99 #[.val (.int p1), .val (.int p2), .val (.ref b3), .val (.int ((p1 &&& (2147483647 : Int32)) % (6 : Int32))), .val (.int ((p2 &&& (2147483647 : Int32)) % (7 : Int32))), .val (.int (0 : Int32))] [(.ref b3)])) _
    refine XS.iloadN X22.here hx rfl (hb hby at_99) rfl ?_
    show Steps p.tables e below (T22.setTop (mkF m 100 #[.val (.int p1), .val (.int p2), .val (.ref b3), .val (.int ((p1 &&& (2147483647 : Int32)) % (6 : Int32))), .val (.int ((p2 &&& (2147483647 : Int32)) % (7 : Int32))), .val (.int (0 : Int32))] [(.int ((p1 &&& (2147483647 : Int32)) % (6 : Int32))), (.ref b3)])) _
    refine X22.aaload hx (j := ((p1 &&& (2147483647 : Int32)) % (6 : Int32))) (v := (.ref w23)) (by rw [e22]; exact Ar_b3_100.1) (State.isArrayOf_alike hZ.alike Ar_b3_100.2.1) rfl Ar_b3_100.2.2 hin100 hat100 (g := (mkF m 100 #[.val (.int p1), .val (.int p2), .val (.ref b3), .val (.int ((p1 &&& (2147483647 : Int32)) % (6 : Int32))), .val (.int ((p2 &&& (2147483647 : Int32)) % (7 : Int32))), .val (.int (0 : Int32))] [(.int ((p1 &&& (2147483647 : Int32)) % (6 : Int32))), (.ref b3)])) rfl rfl (hb hby at_100) _ ?_
    show Steps p.tables e below (T22.setTop (mkF m 101 #[.val (.int p1), .val (.int p2), .val (.ref b3), .val (.int ((p1 &&& (2147483647 : Int32)) % (6 : Int32))), .val (.int ((p2 &&& (2147483647 : Int32)) % (7 : Int32))), .val (.int (0 : Int32))] [(.ref w23)])) _
    refine XS.aloadN X22.here hx rfl (hb hby at_101) rfl rfl ?_
    show Steps p.tables e below (T22.setTop (mkF m 102 #[.val (.int p1), .val (.int p2), .val (.ref b3), .val (.int ((p1 &&& (2147483647 : Int32)) % (6 : Int32))), .val (.int ((p2 &&& (2147483647 : Int32)) % (7 : Int32))), .val (.int (0 : Int32))] [(.ref b3), (.ref w23)])) _
    refine XS.iload X22.here hx rfl (hb hby at_102) rfl ?_
    show Steps p.tables e below (T22.setTop (mkF m 104 #[.val (.int p1), .val (.int p2), .val (.ref b3), .val (.int ((p1 &&& (2147483647 : Int32)) % (6 : Int32))), .val (.int ((p2 &&& (2147483647 : Int32)) % (7 : Int32))), .val (.int (0 : Int32))] [(.int ((p2 &&& (2147483647 : Int32)) % (7 : Int32))), (.ref b3), (.ref w23)])) _
    refine X22.aaload hx (j := ((p2 &&& (2147483647 : Int32)) % (7 : Int32))) (v := (.ref w24)) (by rw [e22]; exact Ar_b3_104.1) (State.isArrayOf_alike hZ.alike Ar_b3_104.2.1) rfl Ar_b3_104.2.2 hin104 hat104 (g := (mkF m 104 #[.val (.int p1), .val (.int p2), .val (.ref b3), .val (.int ((p1 &&& (2147483647 : Int32)) % (6 : Int32))), .val (.int ((p2 &&& (2147483647 : Int32)) % (7 : Int32))), .val (.int (0 : Int32))] [(.int ((p2 &&& (2147483647 : Int32)) % (7 : Int32))), (.ref b3), (.ref w23)])) rfl rfl (hb hby at_104) _ ?_
    show Steps p.tables e below (T22.setTop (mkF m 105 #[.val (.int p1), .val (.int p2), .val (.ref b3), .val (.int ((p1 &&& (2147483647 : Int32)) % (6 : Int32))), .val (.int ((p2 &&& (2147483647 : Int32)) % (7 : Int32))), .val (.int (0 : Int32))] [(.ref w24), (.ref w23)])) _
    refine st25.trans ?_
    show Steps p.tables e below (T25.setTop (mkF m 108 #[.val (.int p1), .val (.int p2), .val (.ref b3), .val (.int ((p1 &&& (2147483647 : Int32)) % (6 : Int32))), .val (.int ((p2 &&& (2147483647 : Int32)) % (7 : Int32))), .val (.int (0 : Int32))] [(.int r25)])) _
    refine XS.iload X25.here hx rfl (hb hby at_108) rfl ?_
    show Steps p.tables e below (T25.setTop (mkF m 110 #[.val (.int p1), .val (.int p2), .val (.ref b3), .val (.int ((p1 &&& (2147483647 : Int32)) % (6 : Int32))), .val (.int ((p2 &&& (2147483647 : Int32)) % (7 : Int32))), .val (.int (0 : Int32))] [(.int (0 : Int32)), (.int r25)])) _
    refine XS.icmpNo X25.here hx rfl (hb hby at_110) rfl (teq hx1).2 ?_
    show Steps p.tables e below (T25.setTop (mkF m 113 #[.val (.int p1), .val (.int p2), .val (.ref b3), .val (.int ((p1 &&& (2147483647 : Int32)) % (6 : Int32))), .val (.int ((p2 &&& (2147483647 : Int32)) % (7 : Int32))), .val (.int (0 : Int32))] [])) _
    refine XS.iconst X25.here hx rfl (hb hby at_113) ?_
    show Steps p.tables e below (T25.setTop (mkF m 114 #[.val (.int p1), .val (.int p2), .val (.ref b3), .val (.int ((p1 &&& (2147483647 : Int32)) % (6 : Int32))), .val (.int ((p2 &&& (2147483647 : Int32)) % (7 : Int32))), .val (.int (0 : Int32))] [(.int (1 : Int32))])) _
    refine XS.goto X25.here hx rfl (pc0 := 114) (pc' := 118) rfl (hb hby at_114) (by decide) (by decide) ?_
    show Steps p.tables e below (T25.setTop (mkF m 118 #[.val (.int p1), .val (.int p2), .val (.ref b3), .val (.int ((p1 &&& (2147483647 : Int32)) % (6 : Int32))), .val (.int ((p2 &&& (2147483647 : Int32)) % (7 : Int32))), .val (.int (0 : Int32))] [(.int (1 : Int32))])) _
    exact retN X25 hx (t := .boolean) Bd.returns (by simp) (hb hby at_118) hr
  · show Q0_fttf Z p1 p2 w4 w7 w10 w13 w16 w19 w23 w24 h0 n0 _ T25.heap _
    exact ⟨rfl, N25⟩
def Q0_ffftf (Z : State) (p1 : Int32) (p2 : Int32) (w4 : Addr) (w7 : Addr) (w10 : Addr) (w13 : Addr) (w16 : Addr) (w19 : Addr) (w23 : Addr) (w24 : Addr) (h0 : Heap) (n0 : Nat) (v : Option Value) (h : Heap) (L : List Loc) : Prop := v = some (.int (1 : Int32)) ∧ Fr n0 L
set_option maxRecDepth 65536 in
set_option maxHeartbeats 40000000 in
theorem rm0_ffftf (l : Launch) (Z : State) (a0 : Array Value) (hw : ∀ d ∈ tables_1, d.before a0 Z = true) (ws : List Jvm.Cond) (p1 : Int32) (p2 : Int32) (w4 : Addr) (w7 : Addr) (w10 : Addr) (w13 : Addr) (w16 : Addr) (w19 : Addr) (w23 : Addr) (w24 : Addr) (r25 : Int32) (h0 : Heap) (n0 : Nat) (Z0 : n0 ≤ h0.size) (S_BIGINT : Sta Z h0 "com/example/indexwright/indexwright/sql/ColumnType" "BIGINT" "Lcom/example/indexwright/indexwright/sql/ColumnType;" (.ref w4)) (S_DOUBLE : Sta Z h0 "com/example/indexwright/indexwright/sql/ColumnType" "DOUBLE" "Lcom/example/indexwright/indexwright/sql/ColumnType;" (.ref w7)) (S_VARCHAR : Sta Z h0 "com/example/indexwright/indexwright/sql/ColumnType" "VARCHAR" "Lcom/example/indexwright/indexwright/sql/ColumnType;" (.ref w10)) (S_BIGINT_ARRAY : Sta Z h0 "com/example/indexwright/indexwright/sql/ColumnType" "BIGINT_ARRAY" "Lcom/example/indexwright/indexwright/sql/ColumnType;" (.ref w13)) (S_DOUBLE_ARRAY : Sta Z h0 "com/example/indexwright/indexwright/sql/ColumnType" "DOUBLE_ARRAY" "Lcom/example/indexwright/indexwright/sql/ColumnType;" (.ref w16)) (S_VARCHAR_ARRAY : Sta Z h0 "com/example/indexwright/indexwright/sql/ColumnType" "VARCHAR_ARRAY" "Lcom/example/indexwright/indexwright/sql/ColumnType;" (.ref w19)) (E_w23 : Exa Z h0 w23 "com/example/indexwright/indexwright/sql/ColumnType") (hc67 : ¬ (((p2 &&& (2147483647 : Int32)) % (7 : Int32)) = ((p1 &&& (2147483647 : Int32)) % (6 : Int32)))) (hc72 : ((p1 &&& (2147483647 : Int32)) % (6 : Int32)) = (1 : Int32)) (hc77 : ¬ (((p2 &&& (2147483647 : Int32)) % (7 : Int32)) = (0 : Int32))) (hc82 : ¬ (((p1 &&& (2147483647 : Int32)) % (6 : Int32)) = (4 : Int32))) (E_w4 : Exa Z h0 w4 "com/example/indexwright/indexwright/sql/ColumnType") (E_w7 : Exa Z h0 w7 "com/example/indexwright/indexwright/sql/ColumnType") (E_w10 : Exa Z h0 w10 "com/example/indexwright/indexwright/sql/ColumnType") (E_w13 : Exa Z h0 w13 "com/example/indexwright/indexwright/sql/ColumnType") (E_w16 : Exa Z h0 w16 "com/example/indexwright/indexwright/sql/ColumnType") (E_w19 : Exa Z h0 w19 "com/example/indexwright/indexwright/sql/ColumnType") (hj100 : ¬ ((p1 &&& (2147483647 : Int32)) % (6 : Int32)) < 0 ∧ ((p1 &&& (2147483647 : Int32)) % (6 : Int32)) < (7 : Int32)) (hu100 : ([(.ref w4), (.ref w7), (.ref w10), (.ref w13), (.ref w16), (.ref w19), .null] : List Value).getD (((p1 &&& (2147483647 : Int32)) % (6 : Int32))).toNatClampNeg .null = (.ref w23)) (hj104 : ¬ ((p2 &&& (2147483647 : Int32)) % (7 : Int32)) < 0 ∧ ((p2 &&& (2147483647 : Int32)) % (7 : Int32)) < (7 : Int32)) (hu104 : ([(.ref w4), (.ref w7), (.ref w10), (.ref w13), (.ref w16), (.ref w19), .null] : List Value).getD (((p2 &&& (2147483647 : Int32)) % (7 : Int32))).toNatClampNeg .null = (.ref w24)) (hP25 : P1b Z h0 w23 w24 (some (.int r25))) (hx1 : r25 = (0 : Int32)) :
    MetFree l x (head1 (Jvm.Cond.code x code maxLocals ret :: ws) room_1) (fun a U => a = #[(.int p1), (.int p2)] ∧ Z.Warmed39 U.vm ∧ U.heap = h0) (fun _ _ _ _ _ => True) (fun _ U o U' => ∃ v L, o = .returned v ∧ Q0_ffftf Z p1 p2 w4 w7 w10 w13 w16 w19 w23 w24 h0 n0 v U'.heap L ∧ FrameEnd U o U' L room_1.cells room_1.slots) := by
  refine MetFree.of_bodySF (plainFor_of_name pn_0) hisR ?_
  intro p e s m args below meth c s₁ Bd hml0 hP hK
  obtain ⟨rfl, hZ, hh⟩ := hP
  have hx := Bd.exec
  have hby := Bd.bytes
  have hml : c.maxLocals = 6 := hml0
  have hown : s.vm.findClass "com/example/indexwright/indexwright/sql/ColumnTypeHoldsPinLaw" = some m.cls := findClass_of_methodNamed Bd.named
  have hnm := (name_of_methodNamed Bd.named Bd.method).1
  have X0 : Stand p l e room_1 s m #[(.int p1), (.int p2)] below meth c s₁ [] 0 0 := Stand.of_body Bd
  have e0 : s₁.heap = h0 := by rw [← hh, Bd.state]; rfl
  have N0 := Fr.nil n0
  have pre0 : ∀ t, Steps p.tables e below (s₁.setTop (mkF m 0 #[.val (.int p1), .val (.int p2), .unset, .unset, .unset, .unset] [])) t → Steps p.tables e below (s₁.setTop (entryFrame m #[(.int p1), (.int p2)] maxLocals)) t := fun t k => castTop (ef_0 m p1 p2) k
  -- 3. LAWS
  obtain ⟨T3, h3, k3, X3, e3, E3, A3, O3, st3⟩ := newR X0 hx hZ hown (hw _ (List.mem_of_getElem? (i := 0) rfl)) (hw _ (List.mem_of_getElem? (i := 1) rfl)) e0 (g := (mkF m 2 #[.val (.int p1), .val (.int p2), .unset, .unset, .unset, .unset] [(.int (7 : Int32))])) rfl (hb hby at_2) rfl (by decide) (cap := 7) (by decide) (by decide) (by decide) (by decide)
  obtain ⟨b3, g3⟩ : ∃ z, z = h0.size := ⟨_, rfl⟩      -- the fresh array's address
  rw [← g3] at A3 st3
  have V_b3 : Arv Z h3 b3 k3 (.object "com/example/indexwright/indexwright/sql/ColumnType") (7 : Int32) [.null, .null, .null, .null, .null, .null, .null] .null := (Arv.new A3 (by decide)).pad (pad_rep [] .null 7)
  have g_b3 : n0 ≤ b3 := Nat.le_trans Z0 (Nat.le_of_eq g3.symm)
  have sz_b3 : h0.size ≤ b3 := (Nat.le_trans (Keep.refl h0 []).1 (Nat.le_of_eq g3.symm))
  have K3 : Keep h0 h3 [] := (Keep.refl h0 []).ext E3
  obtain ⟨T5, X5, e5, st5⟩ := getS2 X3 hx hZ hown (host := "") (Or.inl (hw _ (List.mem_of_getElem? (i := 2) rfl))) Via.refl e3 (own_stak S_BIGINT K3) (g := (mkF m 7 #[.val (.int p1), .val (.int p2), .unset, .unset, .unset, .unset] [(.int (0 : Int32)), (.ref b3), (.ref b3)])) rfl (hb hby at_7)
  -- Sto10: the object may lie in that array: Sto.of Ar.. (an 'Ovr', by the sheet's words) (an 'Ins' of its class), Shelf42/RW6; carried by Sto.ext E.. | Sto.wr W..
  obtain ⟨cl_10, Ar_b3, q_b3, S_b3, N_b3, H_b3, G_b3⟩ := V_b3
  have hin10 := inb_of (j := (0 : Int32)) S_b3 ⟨by decide, by decide⟩
  have Sto10 := Sto.ofV Ar_b3 q_b3 O3 (Ins.self (E_w4.keep K3))
  obtain ⟨T6, h6, X6, e6, W6, st6⟩ := stR X5 hx hZ e5 Ar_b3 (j := (0 : Int32)) hin10 rfl Sto10 (g := (mkF m 10 #[.val (.int p1), .val (.int p2), .unset, .unset, .unset, .unset] [(.ref w4), (.int (0 : Int32)), (.ref b3), (.ref b3)])) rfl rfl (hb hby at_10)
  have V_b3_6 : Arv Z h6 b3 _ (.object "com/example/indexwright/indexwright/sql/ColumnType") (7 : Int32) [(.ref w4), .null, .null, .null, .null, .null, .null] .null := Arv.set Ar_b3 q_b3 S_b3 N_b3 H_b3 G_b3 rfl W6 0 rfl (Nat.le_of_ble_eq_true rfl)
  have N6 := Fr.snoc X6 N0 g_b3
  -- Ar_b3.same W6 : the array with (.ref w4) at the place (0 : Int32)
  have K6 : Keep h0 h6 [] := K3.wr W6 (Or.inr sz_b3)
  obtain ⟨T8, X8, e8, st8⟩ := getS2 X6 hx hZ hown (host := "") (Or.inl (hw _ (List.mem_of_getElem? (i := 6) rfl))) Via.refl e6 (own_stak S_DOUBLE K6) (g := (mkF m 13 #[.val (.int p1), .val (.int p2), .unset, .unset, .unset, .unset] [(.int (1 : Int32)), (.ref b3), (.ref b3)])) rfl (hb hby at_13)
  -- Sto16: the object may lie in that array: Sto.of Ar.. (an 'Ovr', by the sheet's words) (an 'Ins' of its class), Shelf42/RW6; carried by Sto.ext E.. | Sto.wr W..
  obtain ⟨cl_16, Ar_b3, q_b3, S_b3, N_b3, H_b3, G_b3⟩ := V_b3_6
  have hin16 := inb_of (j := (1 : Int32)) S_b3 ⟨by decide, by decide⟩
  have Sto16 := Sto.ofV Ar_b3 q_b3 O3 (Ins.self (E_w7.keep K6))
  obtain ⟨T9, h9, X9, e9, W9, st9⟩ := stR X8 hx hZ e8 Ar_b3 (j := (1 : Int32)) hin16 rfl Sto16 (g := (mkF m 16 #[.val (.int p1), .val (.int p2), .unset, .unset, .unset, .unset] [(.ref w7), (.int (1 : Int32)), (.ref b3), (.ref b3)])) rfl rfl (hb hby at_16)
  have V_b3_9 : Arv Z h9 b3 _ (.object "com/example/indexwright/indexwright/sql/ColumnType") (7 : Int32) [(.ref w4), (.ref w7), .null, .null, .null, .null, .null] .null := Arv.set Ar_b3 q_b3 S_b3 N_b3 H_b3 G_b3 rfl W9 1 rfl (Nat.le_of_ble_eq_true rfl)
  have N9 := Fr.snoc X9 N6 g_b3
  -- Ar_b3.same W9 : the array with (.ref w7) at the place (1 : Int32)
  have K9 : Keep h0 h9 [] := K6.wr W9 (Or.inr sz_b3)
  obtain ⟨T11, X11, e11, st11⟩ := getS2 X9 hx hZ hown (host := "") (Or.inl (hw _ (List.mem_of_getElem? (i := 8) rfl))) Via.refl e9 (own_stak S_VARCHAR K9) (g := (mkF m 19 #[.val (.int p1), .val (.int p2), .unset, .unset, .unset, .unset] [(.int (2 : Int32)), (.ref b3), (.ref b3)])) rfl (hb hby at_19)
  -- Sto22: the object may lie in that array: Sto.of Ar.. (an 'Ovr', by the sheet's words) (an 'Ins' of its class), Shelf42/RW6; carried by Sto.ext E.. | Sto.wr W..
  obtain ⟨cl_22, Ar_b3, q_b3, S_b3, N_b3, H_b3, G_b3⟩ := V_b3_9
  have hin22 := inb_of (j := (2 : Int32)) S_b3 ⟨by decide, by decide⟩
  have Sto22 := Sto.ofV Ar_b3 q_b3 O3 (Ins.self (E_w10.keep K9))
  obtain ⟨T12, h12, X12, e12, W12, st12⟩ := stR X11 hx hZ e11 Ar_b3 (j := (2 : Int32)) hin22 rfl Sto22 (g := (mkF m 22 #[.val (.int p1), .val (.int p2), .unset, .unset, .unset, .unset] [(.ref w10), (.int (2 : Int32)), (.ref b3), (.ref b3)])) rfl rfl (hb hby at_22)
  have V_b3_12 : Arv Z h12 b3 _ (.object "com/example/indexwright/indexwright/sql/ColumnType") (7 : Int32) [(.ref w4), (.ref w7), (.ref w10), .null, .null, .null, .null] .null := Arv.set Ar_b3 q_b3 S_b3 N_b3 H_b3 G_b3 rfl W12 2 rfl (Nat.le_of_ble_eq_true rfl)
  have N12 := Fr.snoc X12 N9 g_b3
  -- Ar_b3.same W12 : the array with (.ref w10) at the place (2 : Int32)
  have K12 : Keep h0 h12 [] := K9.wr W12 (Or.inr sz_b3)
  obtain ⟨T14, X14, e14, st14⟩ := getS2 X12 hx hZ hown (host := "") (Or.inl (hw _ (List.mem_of_getElem? (i := 10) rfl))) Via.refl e12 (own_stak S_BIGINT_ARRAY K12) (g := (mkF m 25 #[.val (.int p1), .val (.int p2), .unset, .unset, .unset, .unset] [(.int (3 : Int32)), (.ref b3), (.ref b3)])) rfl (hb hby at_25)
  -- Sto28: the object may lie in that array: Sto.of Ar.. (an 'Ovr', by the sheet's words) (an 'Ins' of its class), Shelf42/RW6; carried by Sto.ext E.. | Sto.wr W..
  obtain ⟨cl_28, Ar_b3, q_b3, S_b3, N_b3, H_b3, G_b3⟩ := V_b3_12
  have hin28 := inb_of (j := (3 : Int32)) S_b3 ⟨by decide, by decide⟩
  have Sto28 := Sto.ofV Ar_b3 q_b3 O3 (Ins.self (E_w13.keep K12))
  obtain ⟨T15, h15, X15, e15, W15, st15⟩ := stR X14 hx hZ e14 Ar_b3 (j := (3 : Int32)) hin28 rfl Sto28 (g := (mkF m 28 #[.val (.int p1), .val (.int p2), .unset, .unset, .unset, .unset] [(.ref w13), (.int (3 : Int32)), (.ref b3), (.ref b3)])) rfl rfl (hb hby at_28)
  have V_b3_15 : Arv Z h15 b3 _ (.object "com/example/indexwright/indexwright/sql/ColumnType") (7 : Int32) [(.ref w4), (.ref w7), (.ref w10), (.ref w13), .null, .null, .null] .null := Arv.set Ar_b3 q_b3 S_b3 N_b3 H_b3 G_b3 rfl W15 3 rfl (Nat.le_of_ble_eq_true rfl)
  have N15 := Fr.snoc X15 N12 g_b3
  -- Ar_b3.same W15 : the array with (.ref w13) at the place (3 : Int32)
  have K15 : Keep h0 h15 [] := K12.wr W15 (Or.inr sz_b3)
  obtain ⟨T17, X17, e17, st17⟩ := getS2 X15 hx hZ hown (host := "") (Or.inl (hw _ (List.mem_of_getElem? (i := 12) rfl))) Via.refl e15 (own_stak S_DOUBLE_ARRAY K15) (g := (mkF m 31 #[.val (.int p1), .val (.int p2), .unset, .unset, .unset, .unset] [(.int (4 : Int32)), (.ref b3), (.ref b3)])) rfl (hb hby at_31)
  -- Sto34: the object may lie in that array: Sto.of Ar.. (an 'Ovr', by the sheet's words) (an 'Ins' of its class), Shelf42/RW6; carried by Sto.ext E.. | Sto.wr W..
  obtain ⟨cl_34, Ar_b3, q_b3, S_b3, N_b3, H_b3, G_b3⟩ := V_b3_15
  have hin34 := inb_of (j := (4 : Int32)) S_b3 ⟨by decide, by decide⟩
  have Sto34 := Sto.ofV Ar_b3 q_b3 O3 (Ins.self (E_w16.keep K15))
  obtain ⟨T18, h18, X18, e18, W18, st18⟩ := stR X17 hx hZ e17 Ar_b3 (j := (4 : Int32)) hin34 rfl Sto34 (g := (mkF m 34 #[.val (.int p1), .val (.int p2), .unset, .unset, .unset, .unset] [(.ref w16), (.int (4 : Int32)), (.ref b3), (.ref b3)])) rfl rfl (hb hby at_34)
  have V_b3_18 : Arv Z h18 b3 _ (.object "com/example/indexwright/indexwright/sql/ColumnType") (7 : Int32) [(.ref w4), (.ref w7), (.ref w10), (.ref w13), (.ref w16), .null, .null] .null := Arv.set Ar_b3 q_b3 S_b3 N_b3 H_b3 G_b3 rfl W18 4 rfl (Nat.le_of_ble_eq_true rfl)
  have N18 := Fr.snoc X18 N15 g_b3
  -- Ar_b3.same W18 : the array with (.ref w16) at the place (4 : Int32)
  have K18 : Keep h0 h18 [] := K15.wr W18 (Or.inr sz_b3)
  obtain ⟨T20, X20, e20, st20⟩ := getS2 X18 hx hZ hown (host := "") (Or.inl (hw _ (List.mem_of_getElem? (i := 14) rfl))) Via.refl e18 (own_stak S_VARCHAR_ARRAY K18) (g := (mkF m 37 #[.val (.int p1), .val (.int p2), .unset, .unset, .unset, .unset] [(.int (5 : Int32)), (.ref b3), (.ref b3)])) rfl (hb hby at_37)
  -- Sto40: the object may lie in that array: Sto.of Ar.. (an 'Ovr', by the sheet's words) (an 'Ins' of its class), Shelf42/RW6; carried by Sto.ext E.. | Sto.wr W..
  obtain ⟨cl_40, Ar_b3, q_b3, S_b3, N_b3, H_b3, G_b3⟩ := V_b3_18
  have hin40 := inb_of (j := (5 : Int32)) S_b3 ⟨by decide, by decide⟩
  have Sto40 := Sto.ofV Ar_b3 q_b3 O3 (Ins.self (E_w19.keep K18))
  obtain ⟨T21, h21, X21, e21, W21, st21⟩ := stR X20 hx hZ e20 Ar_b3 (j := (5 : Int32)) hin40 rfl Sto40 (g := (mkF m 40 #[.val (.int p1), .val (.int p2), .unset, .unset, .unset, .unset] [(.ref w19), (.int (5 : Int32)), (.ref b3), (.ref b3)])) rfl rfl (hb hby at_40)
  have V_b3_21 : Arv Z h21 b3 _ (.object "com/example/indexwright/indexwright/sql/ColumnType") (7 : Int32) [(.ref w4), (.ref w7), (.ref w10), (.ref w13), (.ref w16), (.ref w19), .null] .null := Arv.set Ar_b3 q_b3 S_b3 N_b3 H_b3 G_b3 rfl W21 5 rfl (Nat.le_of_ble_eq_true rfl)
  have N21 := Fr.snoc X21 N18 g_b3
  -- Ar_b3.same W21 : the array with (.ref w19) at the place (5 : Int32)
  have K21 : Keep h0 h21 [] := K18.wr W21 (Or.inr sz_b3)
  obtain ⟨cl_45, Ar_b3, q_b3, S_b3, N_b3, H_b3, G_b3⟩ := V_b3_21
  have hin45 := inb_of (j := (6 : Int32)) S_b3 ⟨by decide, by decide⟩
  obtain ⟨T22, h22, X22, e22, W22, st22⟩ := stR X21 hx hZ e21 Ar_b3 (j := (6 : Int32)) hin45 rfl (Or.inl rfl) (g := (mkF m 45 #[.val (.int p1), .val (.int p2), .unset, .unset, .unset, .unset] [.null, (.int (6 : Int32)), (.ref b3), (.ref b3)])) rfl rfl (hb hby at_45)
  have V_b3_22 : Arv Z h22 b3 _ (.object "com/example/indexwright/indexwright/sql/ColumnType") (7 : Int32) [(.ref w4), (.ref w7), (.ref w10), (.ref w13), (.ref w16), (.ref w19), .null] .null := Arv.set Ar_b3 q_b3 S_b3 N_b3 H_b3 G_b3 rfl W22 6 rfl (Nat.le_of_ble_eq_true rfl)
  have N22 := Fr.snoc X22 N21 g_b3
  -- Ar_b3.same W22 : the array with .null at the place (6 : Int32)
  have K22 : Keep h0 h22 [] := K21.wr W22 (Or.inr sz_b3)
  obtain ⟨cl_100, Ar_b3_100, q_b3, S_b3, N_b3, H_b3, G_b3⟩ := V_b3_22
  have hin100 := inb_of S_b3 hj100
  have hat100 := H_b3.at hin100 hu100
  have V_b3_p100 : Arv Z h22 b3 _ (.object "com/example/indexwright/indexwright/sql/ColumnType") (7 : Int32) [(.ref w4), (.ref w7), (.ref w10), (.ref w13), (.ref w16), (.ref w19), .null] .null := ⟨cl_100, Ar_b3_100, q_b3, S_b3, N_b3, H_b3, G_b3⟩
  obtain ⟨cl_104, Ar_b3_104, q_b3, S_b3, N_b3, H_b3, G_b3⟩ := V_b3_p100
  have hin104 := inb_of S_b3 hj104
  have hat104 := H_b3.at hin104 hu104
  have V_b3_p104 : Arv Z h22 b3 _ (.object "com/example/indexwright/indexwright/sql/ColumnType") (7 : Int32) [(.ref w4), (.ref w7), (.ref w10), (.ref w13), (.ref w16), (.ref w19), .null] .null := ⟨cl_104, Ar_b3_104, q_b3, S_b3, N_b3, H_b3, G_b3⟩
  -- pc 105: com/example/indexwright/indexwright/sql/ColumnType.holds by the contract of the body that the receiver's class selects, rm1
  obtain ⟨cq25, kq25, q25a, q25b, q25c⟩ := isOf hZ e22 (E_w23.keep K22)
  obtain ⟨_, _, ⟨T25, L25, k25, n25⟩, -, X25, ⟨Lc25, hQ25, l25, y25, z25⟩, st25⟩ := X22.virtualBack hx (y := (⟨"com/example/indexwright/indexwright/sql/ColumnType", "holds", "(Lcom/example/indexwright/indexwright/sql/ColumnType;)Z"⟩ : MethodName)) (z := (⟨"com/example/indexwright/indexwright/sql/ColumnType", "holds", "(Lcom/example/indexwright/indexwright/sql/ColumnType;)Z"⟩ : MethodName)) hown (mvT hZ (hw _ (List.mem_of_getElem? (i := 17) rfl))) (mvT hZ (hw _ (List.mem_of_getElem? (i := 18) rfl))) (notFace_of_selects (args := #[]) (mvT hZ (hw _ (List.mem_of_getElem? (i := 20) rfl)))) (mvT hZ (hw _ (List.mem_of_getElem? (i := 20) rfl))) (mvT hZ (hw _ (List.mem_of_getElem? (i := 19) rfl))) (by decide) (backOf (W := 0) (own_1b l Z a0 hw [] w23 w24 (some (.int r25)) h22 n0 (Nat.le_trans Z0 K22.1) (P1b_keep K22 hP25)) hZ (hw _ (List.mem_of_getElem? (i := 21) rfl)) (hw _ (List.mem_of_getElem? (i := 3) rfl)) (by decide) (by decide)) q25a q25c (g := (mkF m 105 #[.val (.int p1), .val (.int p2), .val (.ref b3), .val (.int ((p1 &&& (2147483647 : Int32)) % (6 : Int32))), .val (.int ((p2 &&& (2147483647 : Int32)) % (7 : Int32))), .val (.int (0 : Int32))] [(.ref w24), (.ref w23)])) rfl (by rw [hml]; rfl) (Steps.refl _) (argsL := [(.ref w24)]) (rest := []) (lenOf pd_0_0 rfl) rfl (by show 2 * 0 + _ ≤ _; exact Nat.le_of_eq rfl) (hb hby at_105) (fun _ _ => ⟨rfl, e22, (by decide : 1 + 0 ≤ _), (by decide : 7 + 0 ≤ _)⟩)
  dsimp only [Pt.U, Pt.locs, Pt.cells, Pt.slots] at X25 l25 y25 z25 st25 hQ25
  subst l25 y25 z25
  obtain ⟨rfl, N25q, e25⟩ := hQ25      -- what it returned, that it wrote nothing old, and the rest of your Q1
  have N25 := Fr.app N22 N25q
  obtain ⟨fs, hr, hrun, hended, hW, hsame⟩ := X25.leave (v := some (.int (1 : Int32))) (fun h => by rw [Bd.returns] at h; cases h)
  refine ⟨_, _, pre0 _ ?_, hrun, hended, _, _, rfl, ?_, ⟨_, rfl⟩, hW, hsame.mono (by decide) (by decide)⟩
  -- 4. STEPS
  · show Steps p.tables e below (s₁.setTop (mkF m 0 #[.val (.int p1), .val (.int p2), .unset, .unset, .unset, .unset] [])) _
    refine XS.bipush X0.here hx rfl (hb hby at_0) ?_
    show Steps p.tables e below (s₁.setTop (mkF m 2 #[.val (.int p1), .val (.int p2), .unset, .unset, .unset, .unset] [(.int (7 : Int32))])) _
    refine st3 _ ?_
    show Steps p.tables e below (T3.setTop (mkF m 5 #[.val (.int p1), .val (.int p2), .unset, .unset, .unset, .unset] [(.ref b3)])) _
    refine XS.dup X3.here hx rfl (hb hby at_5) rfl rfl ?_
    show Steps p.tables e below (T3.setTop (mkF m 6 #[.val (.int p1), .val (.int p2), .unset, .unset, .unset, .unset] [(.ref b3), (.ref b3)])) _
    refine XS.iconst X3.here hx rfl (hb hby at_6) ?_
    show Steps p.tables e below (T3.setTop (mkF m 7 #[.val (.int p1), .val (.int p2), .unset, .unset, .unset, .unset] [(.int (0 : Int32)), (.ref b3), (.ref b3)])) _
    refine st5 _ ?_
    show Steps p.tables e below (T5.setTop (mkF m 10 #[.val (.int p1), .val (.int p2), .unset, .unset, .unset, .unset] [(.ref w4), (.int (0 : Int32)), (.ref b3), (.ref b3)])) _
    refine st6 _ ?_
    show Steps p.tables e below (T6.setTop (mkF m 11 #[.val (.int p1), .val (.int p2), .unset, .unset, .unset, .unset] [(.ref b3)])) _
    refine XS.dup X6.here hx rfl (hb hby at_11) rfl rfl ?_
    show Steps p.tables e below (T6.setTop (mkF m 12 #[.val (.int p1), .val (.int p2), .unset, .unset, .unset, .unset] [(.ref b3), (.ref b3)])) _
    refine XS.iconst X6.here hx rfl (hb hby at_12) ?_
    show Steps p.tables e below (T6.setTop (mkF m 13 #[.val (.int p1), .val (.int p2), .unset, .unset, .unset, .unset] [(.int (1 : Int32)), (.ref b3), (.ref b3)])) _
    refine st8 _ ?_
    show Steps p.tables e below (T8.setTop (mkF m 16 #[.val (.int p1), .val (.int p2), .unset, .unset, .unset, .unset] [(.ref w7), (.int (1 : Int32)), (.ref b3), (.ref b3)])) _
    refine st9 _ ?_
    show Steps p.tables e below (T9.setTop (mkF m 17 #[.val (.int p1), .val (.int p2), .unset, .unset, .unset, .unset] [(.ref b3)])) _
    refine XS.dup X9.here hx rfl (hb hby at_17) rfl rfl ?_
    show Steps p.tables e below (T9.setTop (mkF m 18 #[.val (.int p1), .val (.int p2), .unset, .unset, .unset, .unset] [(.ref b3), (.ref b3)])) _
    refine XS.iconst X9.here hx rfl (hb hby at_18) ?_
    show Steps p.tables e below (T9.setTop (mkF m 19 #[.val (.int p1), .val (.int p2), .unset, .unset, .unset, .unset] [(.int (2 : Int32)), (.ref b3), (.ref b3)])) _
    refine st11 _ ?_
    show Steps p.tables e below (T11.setTop (mkF m 22 #[.val (.int p1), .val (.int p2), .unset, .unset, .unset, .unset] [(.ref w10), (.int (2 : Int32)), (.ref b3), (.ref b3)])) _
    refine st12 _ ?_
    show Steps p.tables e below (T12.setTop (mkF m 23 #[.val (.int p1), .val (.int p2), .unset, .unset, .unset, .unset] [(.ref b3)])) _
    refine XS.dup X12.here hx rfl (hb hby at_23) rfl rfl ?_
    show Steps p.tables e below (T12.setTop (mkF m 24 #[.val (.int p1), .val (.int p2), .unset, .unset, .unset, .unset] [(.ref b3), (.ref b3)])) _
    refine XS.iconst X12.here hx rfl (hb hby at_24) ?_
    show Steps p.tables e below (T12.setTop (mkF m 25 #[.val (.int p1), .val (.int p2), .unset, .unset, .unset, .unset] [(.int (3 : Int32)), (.ref b3), (.ref b3)])) _
    refine st14 _ ?_
    show Steps p.tables e below (T14.setTop (mkF m 28 #[.val (.int p1), .val (.int p2), .unset, .unset, .unset, .unset] [(.ref w13), (.int (3 : Int32)), (.ref b3), (.ref b3)])) _
    refine st15 _ ?_
    show Steps p.tables e below (T15.setTop (mkF m 29 #[.val (.int p1), .val (.int p2), .unset, .unset, .unset, .unset] [(.ref b3)])) _
    refine XS.dup X15.here hx rfl (hb hby at_29) rfl rfl ?_
    show Steps p.tables e below (T15.setTop (mkF m 30 #[.val (.int p1), .val (.int p2), .unset, .unset, .unset, .unset] [(.ref b3), (.ref b3)])) _
    refine XS.iconst X15.here hx rfl (hb hby at_30) ?_
    show Steps p.tables e below (T15.setTop (mkF m 31 #[.val (.int p1), .val (.int p2), .unset, .unset, .unset, .unset] [(.int (4 : Int32)), (.ref b3), (.ref b3)])) _
    refine st17 _ ?_
    show Steps p.tables e below (T17.setTop (mkF m 34 #[.val (.int p1), .val (.int p2), .unset, .unset, .unset, .unset] [(.ref w16), (.int (4 : Int32)), (.ref b3), (.ref b3)])) _
    refine st18 _ ?_
    show Steps p.tables e below (T18.setTop (mkF m 35 #[.val (.int p1), .val (.int p2), .unset, .unset, .unset, .unset] [(.ref b3)])) _
    refine XS.dup X18.here hx rfl (hb hby at_35) rfl rfl ?_
    show Steps p.tables e below (T18.setTop (mkF m 36 #[.val (.int p1), .val (.int p2), .unset, .unset, .unset, .unset] [(.ref b3), (.ref b3)])) _
    refine XS.iconst X18.here hx rfl (hb hby at_36) ?_
    show Steps p.tables e below (T18.setTop (mkF m 37 #[.val (.int p1), .val (.int p2), .unset, .unset, .unset, .unset] [(.int (5 : Int32)), (.ref b3), (.ref b3)])) _
    refine st20 _ ?_
    show Steps p.tables e below (T20.setTop (mkF m 40 #[.val (.int p1), .val (.int p2), .unset, .unset, .unset, .unset] [(.ref w19), (.int (5 : Int32)), (.ref b3), (.ref b3)])) _
    refine st21 _ ?_
    show Steps p.tables e below (T21.setTop (mkF m 41 #[.val (.int p1), .val (.int p2), .unset, .unset, .unset, .unset] [(.ref b3)])) _
    refine XS.dup X21.here hx rfl (hb hby at_41) rfl rfl ?_
    show Steps p.tables e below (T21.setTop (mkF m 42 #[.val (.int p1), .val (.int p2), .unset, .unset, .unset, .unset] [(.ref b3), (.ref b3)])) _
    refine XS.bipush X21.here hx rfl (hb hby at_42) ?_
    show Steps p.tables e below (T21.setTop (mkF m 44 #[.val (.int p1), .val (.int p2), .unset, .unset, .unset, .unset] [(.int (6 : Int32)), (.ref b3), (.ref b3)])) _
    refine XS.aconstNull X21.here hx rfl (hb hby at_44) ?_
    show Steps p.tables e below (T21.setTop (mkF m 45 #[.val (.int p1), .val (.int p2), .unset, .unset, .unset, .unset] [.null, (.int (6 : Int32)), (.ref b3), (.ref b3)])) _
    refine st22 _ ?_
    show Steps p.tables e below (T22.setTop (mkF m 46 #[.val (.int p1), .val (.int p2), .unset, .unset, .unset, .unset] [(.ref b3)])) _
    refine XS.astoreN X22.here hx rfl (hb hby at_46) rfl rfl (l' := #[.val (.int p1), .val (.int p2), .val (.ref b3), .unset, .unset, .unset]) rfl ?_
    show Steps p.tables e below (T22.setTop (mkF m 47 #[.val (.int p1), .val (.int p2), .val (.ref b3), .unset, .unset, .unset] [])) _
    refine XS.iloadN X22.here hx rfl (hb hby at_47) rfl ?_
    show Steps p.tables e below (T22.setTop (mkF m 48 #[.val (.int p1), .val (.int p2), .val (.ref b3), .unset, .unset, .unset] [(.int p1)])) _
    refine X22.ldcInt hx hown (mvT hZ (hw _ (List.mem_of_getElem? (i := 16) rfl))) (g := (mkF m 48 #[.val (.int p1), .val (.int p2), .val (.ref b3), .unset, .unset, .unset] [(.int p1)])) rfl (hb hby at_48) _ ?_
    show Steps p.tables e below (T22.setTop (mkF m 50 #[.val (.int p1), .val (.int p2), .val (.ref b3), .unset, .unset, .unset] [(.int (2147483647 : Int32)), (.int p1)])) _
    refine XS.iand X22.here hx rfl (hb hby at_50) rfl ?_
    show Steps p.tables e below (T22.setTop (mkF m 51 #[.val (.int p1), .val (.int p2), .val (.ref b3), .unset, .unset, .unset] [(.int (p1 &&& (2147483647 : Int32)))])) _
    refine XS.bipush X22.here hx rfl (hb hby at_51) ?_
    show Steps p.tables e below (T22.setTop (mkF m 53 #[.val (.int p1), .val (.int p2), .val (.ref b3), .unset, .unset, .unset] [(.int (6 : Int32)), (.int (p1 &&& (2147483647 : Int32)))])) _
    refine Jvm.RoadKit.iremM X22 hx rfl (hb hby at_53) rfl (by decide) ?_
    show Steps p.tables e below (T22.setTop (mkF m 54 #[.val (.int p1), .val (.int p2), .val (.ref b3), .unset, .unset, .unset] [(.int ((p1 &&& (2147483647 : Int32)) % (6 : Int32)))])) _
    refine XS.istoreN X22.here hx rfl (hb hby at_54) rfl (l' := #[.val (.int p1), .val (.int p2), .val (.ref b3), .val (.int ((p1 &&& (2147483647 : Int32)) % (6 : Int32))), .unset, .unset]) rfl ?_
    show Steps p.tables e below (T22.setTop (mkF m 55 #[.val (.int p1), .val (.int p2), .val (.ref b3), .val (.int ((p1 &&& (2147483647 : Int32)) % (6 : Int32))), .unset, .unset] [])) _
    refine XS.iloadN X22.here hx rfl (hb hby at_55) rfl ?_
    show Steps p.tables e below (T22.setTop (mkF m 56 #[.val (.int p1), .val (.int p2), .val (.ref b3), .val (.int ((p1 &&& (2147483647 : Int32)) % (6 : Int32))), .unset, .unset] [(.int p2)])) _
    refine X22.ldcInt hx hown (mvT hZ (hw _ (List.mem_of_getElem? (i := 16) rfl))) (g := (mkF m 56 #[.val (.int p1), .val (.int p2), .val (.ref b3), .val (.int ((p1 &&& (2147483647 : Int32)) % (6 : Int32))), .unset, .unset] [(.int p2)])) rfl (hb hby at_56) _ ?_
    show Steps p.tables e below (T22.setTop (mkF m 58 #[.val (.int p1), .val (.int p2), .val (.ref b3), .val (.int ((p1 &&& (2147483647 : Int32)) % (6 : Int32))), .unset, .unset] [(.int (2147483647 : Int32)), (.int p2)])) _
    refine XS.iand X22.here hx rfl (hb hby at_58) rfl ?_
    show Steps p.tables e below (T22.setTop (mkF m 59 #[.val (.int p1), .val (.int p2), .val (.ref b3), .val (.int ((p1 &&& (2147483647 : Int32)) % (6 : Int32))), .unset, .unset] [(.int (p2 &&& (2147483647 : Int32)))])) _
    refine XS.bipush X22.here hx rfl (hb hby at_59) ?_
    show Steps p.tables e below (T22.setTop (mkF m 61 #[.val (.int p1), .val (.int p2), .val (.ref b3), .val (.int ((p1 &&& (2147483647 : Int32)) % (6 : Int32))), .unset, .unset] [(.int (7 : Int32)), (.int (p2 &&& (2147483647 : Int32)))])) _
    refine Jvm.RoadKit.iremM X22 hx rfl (hb hby at_61) rfl (by decide) ?_
    show Steps p.tables e below (T22.setTop (mkF m 62 #[.val (.int p1), .val (.int p2), .val (.ref b3), .val (.int ((p1 &&& (2147483647 : Int32)) % (6 : Int32))), .unset, .unset] [(.int ((p2 &&& (2147483647 : Int32)) % (7 : Int32)))])) _
    refine XS.istore X22.here hx rfl (hb hby at_62) rfl (l' := #[.val (.int p1), .val (.int p2), .val (.ref b3), .val (.int ((p1 &&& (2147483647 : Int32)) % (6 : Int32))), .val (.int ((p2 &&& (2147483647 : Int32)) % (7 : Int32))), .unset]) rfl ?_
    show Steps p.tables e below (T22.setTop (mkF m 64 #[.val (.int p1), .val (.int p2), .val (.ref b3), .val (.int ((p1 &&& (2147483647 : Int32)) % (6 : Int32))), .val (.int ((p2 &&& (2147483647 : Int32)) % (7 : Int32))), .unset] [])) _
    refine XS.iload X22.here hx rfl (hb hby at_64) rfl ?_
    show Steps p.tables e below (T22.setTop (mkF m 66 #[.val (.int p1), .val (.int p2), .val (.ref b3), .val (.int ((p1 &&& (2147483647 : Int32)) % (6 : Int32))), .val (.int ((p2 &&& (2147483647 : Int32)) % (7 : Int32))), .unset] [(.int ((p2 &&& (2147483647 : Int32)) % (7 : Int32)))])) _
    refine XS.iloadN X22.here hx rfl (hb hby at_66) rfl ?_
    show Steps p.tables e below (T22.setTop (mkF m 67 #[.val (.int p1), .val (.int p2), .val (.ref b3), .val (.int ((p1 &&& (2147483647 : Int32)) % (6 : Int32))), .val (.int ((p2 &&& (2147483647 : Int32)) % (7 : Int32))), .unset] [(.int ((p1 &&& (2147483647 : Int32)) % (6 : Int32))), (.int ((p2 &&& (2147483647 : Int32)) % (7 : Int32)))])) _
    refine XS.icmpNo X22.here hx rfl (hb hby at_67) rfl (feq hc67).1 ?_
    show Steps p.tables e below (T22.setTop (mkF m 70 #[.val (.int p1), .val (.int p2), .val (.ref b3), .val (.int ((p1 &&& (2147483647 : Int32)) % (6 : Int32))), .val (.int ((p2 &&& (2147483647 : Int32)) % (7 : Int32))), .unset] [])) _
    refine XS.iloadN X22.here hx rfl (hb hby at_70) rfl ?_
    show Steps p.tables e below (T22.setTop (mkF m 71 #[.val (.int p1), .val (.int p2), .val (.ref b3), .val (.int ((p1 &&& (2147483647 : Int32)) % (6 : Int32))), .val (.int ((p2 &&& (2147483647 : Int32)) % (7 : Int32))), .unset] [(.int ((p1 &&& (2147483647 : Int32)) % (6 : Int32)))])) _
    refine XS.iconst X22.here hx rfl (hb hby at_71) ?_
    show Steps p.tables e below (T22.setTop (mkF m 72 #[.val (.int p1), .val (.int p2), .val (.ref b3), .val (.int ((p1 &&& (2147483647 : Int32)) % (6 : Int32))), .val (.int ((p2 &&& (2147483647 : Int32)) % (7 : Int32))), .unset] [(.int (1 : Int32)), (.int ((p1 &&& (2147483647 : Int32)) % (6 : Int32)))])) _
    refine XS.icmpNo X22.here hx rfl (hb hby at_72) rfl (teq hc72).2 ?_
    show Steps p.tables e below (T22.setTop (mkF m 75 #[.val (.int p1), .val (.int p2), .val (.ref b3), .val (.int ((p1 &&& (2147483647 : Int32)) % (6 : Int32))), .val (.int ((p2 &&& (2147483647 : Int32)) % (7 : Int32))), .unset] [])) _
    refine XS.iload X22.here hx rfl (hb hby at_75) rfl ?_
    show Steps p.tables e below (T22.setTop (mkF m 77 #[.val (.int p1), .val (.int p2), .val (.ref b3), .val (.int ((p1 &&& (2147483647 : Int32)) % (6 : Int32))), .val (.int ((p2 &&& (2147483647 : Int32)) % (7 : Int32))), .unset] [(.int ((p2 &&& (2147483647 : Int32)) % (7 : Int32)))])) _
    refine XS.ifNo X22.here hx rfl (hb hby at_77) rfl ((if0 _ _).trans (feq hc77).1) ?_
    show Steps p.tables e below (T22.setTop (mkF m 80 #[.val (.int p1), .val (.int p2), .val (.ref b3), .val (.int ((p1 &&& (2147483647 : Int32)) % (6 : Int32))), .val (.int ((p2 &&& (2147483647 : Int32)) % (7 : Int32))), .unset] [])) _
    refine XS.iloadN X22.here hx rfl (hb hby at_80) rfl ?_
    show Steps p.tables e below (T22.setTop (mkF m 81 #[.val (.int p1), .val (.int p2), .val (.ref b3), .val (.int ((p1 &&& (2147483647 : Int32)) % (6 : Int32))), .val (.int ((p2 &&& (2147483647 : Int32)) % (7 : Int32))), .unset] [(.int ((p1 &&& (2147483647 : Int32)) % (6 : Int32)))])) _
    refine XS.iconst X22.here hx rfl (hb hby at_81) ?_
    show Steps p.tables e below (T22.setTop (mkF m 82 #[.val (.int p1), .val (.int p2), .val (.ref b3), .val (.int ((p1 &&& (2147483647 : Int32)) % (6 : Int32))), .val (.int ((p2 &&& (2147483647 : Int32)) % (7 : Int32))), .unset] [(.int (4 : Int32)), (.int ((p1 &&& (2147483647 : Int32)) % (6 : Int32)))])) _
    refine XS.icmpYes X22.here hx rfl (pc0 := 82) (pc' := 95) rfl (hb hby at_82) rfl (feq hc82).2 (by decide) (by decide) ?_
    show Steps p.tables e below (T22.setTop (mkF m 95 #[.val (.int p1), .val (.int p2), .val (.ref b3), .val (.int ((p1 &&& (2147483647 : Int32)) % (6 : Int32))), .val (.int ((p2 &&& (2147483647 : Int32)) % (7 : Int32))), .unset] [])) _
    refine XS.iconst X22.here hx rfl (hb hby at_95) ?_
    show Steps p.tables e below (T22.setTop (mkF m 96 #[.val (.int p1), .val (.int p2), .val (.ref b3), .val (.int ((p1 &&& (2147483647 : Int32)) % (6 : Int32))), .val (.int ((p2 &&& (2147483647 : Int32)) % (7 : Int32))), .unset] [(.int (0 : Int32))])) _
    refine XS.istore X22.here hx rfl (hb hby at_96) rfl (l' := #[.val (.int p1), .val (.int p2), .val (.ref b3), .val (.int ((p1 &&& (2147483647 : Int32)) % (6 : Int32))), .val (.int ((p2 &&& (2147483647 : Int32)) % (7 : Int32))), .val (.int (0 : Int32))]) rfl ?_
    show Steps p.tables e below (T22.setTop (mkF m 98 #[.val (.int p1), .val (.int p2), .val (.ref b3), .val (.int ((p1 &&& (2147483647 : Int32)) % (6 : Int32))), .val (.int ((p2 &&& (2147483647 : Int32)) % (7 : Int32))), .val (.int (0 : Int32))] [])) _
    refine XS.aloadN X22.here hx rfl (hb hby at_98) rfl rfl ?_
    show Steps p.tables e below (T22.setTop (mkF m 99 #[.val (.int p1), .val (.int p2), .val (.ref b3), .val (.int ((p1 &&& (2147483647 : Int32)) % (6 : Int32))), .val (.int ((p2 &&& (2147483647 : Int32)) % (7 : Int32))), .val (.int (0 : Int32))] [(.ref b3)])) _
    refine XS.iloadN X22.here hx rfl (hb hby at_99) rfl ?_
    show Steps p.tables e below (T22.setTop (mkF m 100 #[.val (.int p1), .val (.int p2), .val (.ref b3), .val (.int ((p1 &&& (2147483647 : Int32)) % (6 : Int32))), .val (.int ((p2 &&& (2147483647 : Int32)) % (7 : Int32))), .val (.int (0 : Int32))] [(.int ((p1 &&& (2147483647 : Int32)) % (6 : Int32))), (.ref b3)])) _
    refine X22.aaload hx (j := ((p1 &&& (2147483647 : Int32)) % (6 : Int32))) (v := (.ref w23)) (by rw [e22]; exact Ar_b3_100.1) (State.isArrayOf_alike hZ.alike Ar_b3_100.2.1) rfl Ar_b3_100.2.2 hin100 hat100 (g := (mkF m 100 #[.val (.int p1), .val (.int p2), .val (.ref b3), .val (.int ((p1 &&& (2147483647 : Int32)) % (6 : Int32))), .val (.int ((p2 &&& (2147483647 : Int32)) % (7 : Int32))), .val (.int (0 : Int32))] [(.int ((p1 &&& (2147483647 : Int32)) % (6 : Int32))), (.ref b3)])) rfl rfl (hb hby at_100) _ ?_
    show Steps p.tables e below (T22.setTop (mkF m 101 #[.val (.int p1), .val (.int p2), .val (.ref b3), .val (.int ((p1 &&& (2147483647 : Int32)) % (6 : Int32))), .val (.int ((p2 &&& (2147483647 : Int32)) % (7 : Int32))), .val (.int (0 : Int32))] [(.ref w23)])) _
    refine XS.aloadN X22.here hx rfl (hb hby at_101) rfl rfl ?_
    show Steps p.tables e below (T22.setTop (mkF m 102 #[.val (.int p1), .val (.int p2), .val (.ref b3), .val (.int ((p1 &&& (2147483647 : Int32)) % (6 : Int32))), .val (.int ((p2 &&& (2147483647 : Int32)) % (7 : Int32))), .val (.int (0 : Int32))] [(.ref b3), (.ref w23)])) _
    refine XS.iload X22.here hx rfl (hb hby at_102) rfl ?_
    show Steps p.tables e below (T22.setTop (mkF m 104 #[.val (.int p1), .val (.int p2), .val (.ref b3), .val (.int ((p1 &&& (2147483647 : Int32)) % (6 : Int32))), .val (.int ((p2 &&& (2147483647 : Int32)) % (7 : Int32))), .val (.int (0 : Int32))] [(.int ((p2 &&& (2147483647 : Int32)) % (7 : Int32))), (.ref b3), (.ref w23)])) _
    refine X22.aaload hx (j := ((p2 &&& (2147483647 : Int32)) % (7 : Int32))) (v := (.ref w24)) (by rw [e22]; exact Ar_b3_104.1) (State.isArrayOf_alike hZ.alike Ar_b3_104.2.1) rfl Ar_b3_104.2.2 hin104 hat104 (g := (mkF m 104 #[.val (.int p1), .val (.int p2), .val (.ref b3), .val (.int ((p1 &&& (2147483647 : Int32)) % (6 : Int32))), .val (.int ((p2 &&& (2147483647 : Int32)) % (7 : Int32))), .val (.int (0 : Int32))] [(.int ((p2 &&& (2147483647 : Int32)) % (7 : Int32))), (.ref b3), (.ref w23)])) rfl rfl (hb hby at_104) _ ?_
    show Steps p.tables e below (T22.setTop (mkF m 105 #[.val (.int p1), .val (.int p2), .val (.ref b3), .val (.int ((p1 &&& (2147483647 : Int32)) % (6 : Int32))), .val (.int ((p2 &&& (2147483647 : Int32)) % (7 : Int32))), .val (.int (0 : Int32))] [(.ref w24), (.ref w23)])) _
    refine st25.trans ?_
    show Steps p.tables e below (T25.setTop (mkF m 108 #[.val (.int p1), .val (.int p2), .val (.ref b3), .val (.int ((p1 &&& (2147483647 : Int32)) % (6 : Int32))), .val (.int ((p2 &&& (2147483647 : Int32)) % (7 : Int32))), .val (.int (0 : Int32))] [(.int r25)])) _
    refine XS.iload X25.here hx rfl (hb hby at_108) rfl ?_
    show Steps p.tables e below (T25.setTop (mkF m 110 #[.val (.int p1), .val (.int p2), .val (.ref b3), .val (.int ((p1 &&& (2147483647 : Int32)) % (6 : Int32))), .val (.int ((p2 &&& (2147483647 : Int32)) % (7 : Int32))), .val (.int (0 : Int32))] [(.int (0 : Int32)), (.int r25)])) _
    refine XS.icmpNo X25.here hx rfl (hb hby at_110) rfl (teq hx1).2 ?_
    show Steps p.tables e below (T25.setTop (mkF m 113 #[.val (.int p1), .val (.int p2), .val (.ref b3), .val (.int ((p1 &&& (2147483647 : Int32)) % (6 : Int32))), .val (.int ((p2 &&& (2147483647 : Int32)) % (7 : Int32))), .val (.int (0 : Int32))] [])) _
    refine XS.iconst X25.here hx rfl (hb hby at_113) ?_
    show Steps p.tables e below (T25.setTop (mkF m 114 #[.val (.int p1), .val (.int p2), .val (.ref b3), .val (.int ((p1 &&& (2147483647 : Int32)) % (6 : Int32))), .val (.int ((p2 &&& (2147483647 : Int32)) % (7 : Int32))), .val (.int (0 : Int32))] [(.int (1 : Int32))])) _
    refine XS.goto X25.here hx rfl (pc0 := 114) (pc' := 118) rfl (hb hby at_114) (by decide) (by decide) ?_
    show Steps p.tables e below (T25.setTop (mkF m 118 #[.val (.int p1), .val (.int p2), .val (.ref b3), .val (.int ((p1 &&& (2147483647 : Int32)) % (6 : Int32))), .val (.int ((p2 &&& (2147483647 : Int32)) % (7 : Int32))), .val (.int (0 : Int32))] [(.int (1 : Int32))])) _
    exact retN X25 hx (t := .boolean) Bd.returns (by simp) (hb hby at_118) hr
  · show Q0_ffftf Z p1 p2 w4 w7 w10 w13 w16 w19 w23 w24 h0 n0 _ T25.heap _
    exact ⟨rfl, N25⟩
def Q0_ftfff (Z : State) (p1 : Int32) (p2 : Int32) (w4 : Addr) (w7 : Addr) (w10 : Addr) (w13 : Addr) (w16 : Addr) (w19 : Addr) (w23 : Addr) (w24 : Addr) (h0 : Heap) (n0 : Nat) (v : Option Value) (h : Heap) (L : List Loc) : Prop := v = some (.int (1 : Int32)) ∧ Fr n0 L
set_option maxRecDepth 65536 in
set_option maxHeartbeats 40000000 in
theorem rm0_ftfff (l : Launch) (Z : State) (a0 : Array Value) (hw : ∀ d ∈ tables_1, d.before a0 Z = true) (ws : List Jvm.Cond) (p1 : Int32) (p2 : Int32) (w4 : Addr) (w7 : Addr) (w10 : Addr) (w13 : Addr) (w16 : Addr) (w19 : Addr) (w23 : Addr) (w24 : Addr) (r25 : Int32) (h0 : Heap) (n0 : Nat) (Z0 : n0 ≤ h0.size) (S_BIGINT : Sta Z h0 "com/example/indexwright/indexwright/sql/ColumnType" "BIGINT" "Lcom/example/indexwright/indexwright/sql/ColumnType;" (.ref w4)) (S_DOUBLE : Sta Z h0 "com/example/indexwright/indexwright/sql/ColumnType" "DOUBLE" "Lcom/example/indexwright/indexwright/sql/ColumnType;" (.ref w7)) (S_VARCHAR : Sta Z h0 "com/example/indexwright/indexwright/sql/ColumnType" "VARCHAR" "Lcom/example/indexwright/indexwright/sql/ColumnType;" (.ref w10)) (S_BIGINT_ARRAY : Sta Z h0 "com/example/indexwright/indexwright/sql/ColumnType" "BIGINT_ARRAY" "Lcom/example/indexwright/indexwright/sql/ColumnType;" (.ref w13)) (S_DOUBLE_ARRAY : Sta Z h0 "com/example/indexwright/indexwright/sql/ColumnType" "DOUBLE_ARRAY" "Lcom/example/indexwright/indexwright/sql/ColumnType;" (.ref w16)) (S_VARCHAR_ARRAY : Sta Z h0 "com/example/indexwright/indexwright/sql/ColumnType" "VARCHAR_ARRAY" "Lcom/example/indexwright/indexwright/sql/ColumnType;" (.ref w19)) (E_w23 : Exa Z h0 w23 "com/example/indexwright/indexwright/sql/ColumnType") (hc67 : ¬ (((p2 &&& (2147483647 : Int32)) % (7 : Int32)) = ((p1 &&& (2147483647 : Int32)) % (6 : Int32)))) (hc72 : ¬ (((p1 &&& (2147483647 : Int32)) % (6 : Int32)) = (1 : Int32))) (hc82 : ((p1 &&& (2147483647 : Int32)) % (6 : Int32)) = (4 : Int32)) (hc88 : ((p2 &&& (2147483647 : Int32)) % (7 : Int32)) = (3 : Int32)) (E_w4 : Exa Z h0 w4 "com/example/indexwright/indexwright/sql/ColumnType") (E_w7 : Exa Z h0 w7 "com/example/indexwright/indexwright/sql/ColumnType") (E_w10 : Exa Z h0 w10 "com/example/indexwright/indexwright/sql/ColumnType") (E_w13 : Exa Z h0 w13 "com/example/indexwright/indexwright/sql/ColumnType") (E_w16 : Exa Z h0 w16 "com/example/indexwright/indexwright/sql/ColumnType") (E_w19 : Exa Z h0 w19 "com/example/indexwright/indexwright/sql/ColumnType") (hj100 : ¬ ((p1 &&& (2147483647 : Int32)) % (6 : Int32)) < 0 ∧ ((p1 &&& (2147483647 : Int32)) % (6 : Int32)) < (7 : Int32)) (hu100 : ([(.ref w4), (.ref w7), (.ref w10), (.ref w13), (.ref w16), (.ref w19), .null] : List Value).getD (((p1 &&& (2147483647 : Int32)) % (6 : Int32))).toNatClampNeg .null = (.ref w23)) (hj104 : ¬ ((p2 &&& (2147483647 : Int32)) % (7 : Int32)) < 0 ∧ ((p2 &&& (2147483647 : Int32)) % (7 : Int32)) < (7 : Int32)) (hu104 : ([(.ref w4), (.ref w7), (.ref w10), (.ref w13), (.ref w16), (.ref w19), .null] : List Value).getD (((p2 &&& (2147483647 : Int32)) % (7 : Int32))).toNatClampNeg .null = (.ref w24)) (hP25 : P1b Z h0 w23 w24 (some (.int r25))) (hx1 : r25 = (1 : Int32)) :
    MetFree l x (head1 (Jvm.Cond.code x code maxLocals ret :: ws) room_1) (fun a U => a = #[(.int p1), (.int p2)] ∧ Z.Warmed39 U.vm ∧ U.heap = h0) (fun _ _ _ _ _ => True) (fun _ U o U' => ∃ v L, o = .returned v ∧ Q0_ftfff Z p1 p2 w4 w7 w10 w13 w16 w19 w23 w24 h0 n0 v U'.heap L ∧ FrameEnd U o U' L room_1.cells room_1.slots) := by
  refine MetFree.of_bodySF (plainFor_of_name pn_0) hisR ?_
  intro p e s m args below meth c s₁ Bd hml0 hP hK
  obtain ⟨rfl, hZ, hh⟩ := hP
  have hx := Bd.exec
  have hby := Bd.bytes
  have hml : c.maxLocals = 6 := hml0
  have hown : s.vm.findClass "com/example/indexwright/indexwright/sql/ColumnTypeHoldsPinLaw" = some m.cls := findClass_of_methodNamed Bd.named
  have hnm := (name_of_methodNamed Bd.named Bd.method).1
  have X0 : Stand p l e room_1 s m #[(.int p1), (.int p2)] below meth c s₁ [] 0 0 := Stand.of_body Bd
  have e0 : s₁.heap = h0 := by rw [← hh, Bd.state]; rfl
  have N0 := Fr.nil n0
  have pre0 : ∀ t, Steps p.tables e below (s₁.setTop (mkF m 0 #[.val (.int p1), .val (.int p2), .unset, .unset, .unset, .unset] [])) t → Steps p.tables e below (s₁.setTop (entryFrame m #[(.int p1), (.int p2)] maxLocals)) t := fun t k => castTop (ef_0 m p1 p2) k
  -- 3. LAWS
  obtain ⟨T3, h3, k3, X3, e3, E3, A3, O3, st3⟩ := newR X0 hx hZ hown (hw _ (List.mem_of_getElem? (i := 0) rfl)) (hw _ (List.mem_of_getElem? (i := 1) rfl)) e0 (g := (mkF m 2 #[.val (.int p1), .val (.int p2), .unset, .unset, .unset, .unset] [(.int (7 : Int32))])) rfl (hb hby at_2) rfl (by decide) (cap := 7) (by decide) (by decide) (by decide) (by decide)
  obtain ⟨b3, g3⟩ : ∃ z, z = h0.size := ⟨_, rfl⟩      -- the fresh array's address
  rw [← g3] at A3 st3
  have V_b3 : Arv Z h3 b3 k3 (.object "com/example/indexwright/indexwright/sql/ColumnType") (7 : Int32) [.null, .null, .null, .null, .null, .null, .null] .null := (Arv.new A3 (by decide)).pad (pad_rep [] .null 7)
  have g_b3 : n0 ≤ b3 := Nat.le_trans Z0 (Nat.le_of_eq g3.symm)
  have sz_b3 : h0.size ≤ b3 := (Nat.le_trans (Keep.refl h0 []).1 (Nat.le_of_eq g3.symm))
  have K3 : Keep h0 h3 [] := (Keep.refl h0 []).ext E3
  obtain ⟨T5, X5, e5, st5⟩ := getS2 X3 hx hZ hown (host := "") (Or.inl (hw _ (List.mem_of_getElem? (i := 2) rfl))) Via.refl e3 (own_stak S_BIGINT K3) (g := (mkF m 7 #[.val (.int p1), .val (.int p2), .unset, .unset, .unset, .unset] [(.int (0 : Int32)), (.ref b3), (.ref b3)])) rfl (hb hby at_7)
  -- Sto10: the object may lie in that array: Sto.of Ar.. (an 'Ovr', by the sheet's words) (an 'Ins' of its class), Shelf42/RW6; carried by Sto.ext E.. | Sto.wr W..
  obtain ⟨cl_10, Ar_b3, q_b3, S_b3, N_b3, H_b3, G_b3⟩ := V_b3
  have hin10 := inb_of (j := (0 : Int32)) S_b3 ⟨by decide, by decide⟩
  have Sto10 := Sto.ofV Ar_b3 q_b3 O3 (Ins.self (E_w4.keep K3))
  obtain ⟨T6, h6, X6, e6, W6, st6⟩ := stR X5 hx hZ e5 Ar_b3 (j := (0 : Int32)) hin10 rfl Sto10 (g := (mkF m 10 #[.val (.int p1), .val (.int p2), .unset, .unset, .unset, .unset] [(.ref w4), (.int (0 : Int32)), (.ref b3), (.ref b3)])) rfl rfl (hb hby at_10)
  have V_b3_6 : Arv Z h6 b3 _ (.object "com/example/indexwright/indexwright/sql/ColumnType") (7 : Int32) [(.ref w4), .null, .null, .null, .null, .null, .null] .null := Arv.set Ar_b3 q_b3 S_b3 N_b3 H_b3 G_b3 rfl W6 0 rfl (Nat.le_of_ble_eq_true rfl)
  have N6 := Fr.snoc X6 N0 g_b3
  -- Ar_b3.same W6 : the array with (.ref w4) at the place (0 : Int32)
  have K6 : Keep h0 h6 [] := K3.wr W6 (Or.inr sz_b3)
  obtain ⟨T8, X8, e8, st8⟩ := getS2 X6 hx hZ hown (host := "") (Or.inl (hw _ (List.mem_of_getElem? (i := 6) rfl))) Via.refl e6 (own_stak S_DOUBLE K6) (g := (mkF m 13 #[.val (.int p1), .val (.int p2), .unset, .unset, .unset, .unset] [(.int (1 : Int32)), (.ref b3), (.ref b3)])) rfl (hb hby at_13)
  -- Sto16: the object may lie in that array: Sto.of Ar.. (an 'Ovr', by the sheet's words) (an 'Ins' of its class), Shelf42/RW6; carried by Sto.ext E.. | Sto.wr W..
  obtain ⟨cl_16, Ar_b3, q_b3, S_b3, N_b3, H_b3, G_b3⟩ := V_b3_6
  have hin16 := inb_of (j := (1 : Int32)) S_b3 ⟨by decide, by decide⟩
  have Sto16 := Sto.ofV Ar_b3 q_b3 O3 (Ins.self (E_w7.keep K6))
  obtain ⟨T9, h9, X9, e9, W9, st9⟩ := stR X8 hx hZ e8 Ar_b3 (j := (1 : Int32)) hin16 rfl Sto16 (g := (mkF m 16 #[.val (.int p1), .val (.int p2), .unset, .unset, .unset, .unset] [(.ref w7), (.int (1 : Int32)), (.ref b3), (.ref b3)])) rfl rfl (hb hby at_16)
  have V_b3_9 : Arv Z h9 b3 _ (.object "com/example/indexwright/indexwright/sql/ColumnType") (7 : Int32) [(.ref w4), (.ref w7), .null, .null, .null, .null, .null] .null := Arv.set Ar_b3 q_b3 S_b3 N_b3 H_b3 G_b3 rfl W9 1 rfl (Nat.le_of_ble_eq_true rfl)
  have N9 := Fr.snoc X9 N6 g_b3
  -- Ar_b3.same W9 : the array with (.ref w7) at the place (1 : Int32)
  have K9 : Keep h0 h9 [] := K6.wr W9 (Or.inr sz_b3)
  obtain ⟨T11, X11, e11, st11⟩ := getS2 X9 hx hZ hown (host := "") (Or.inl (hw _ (List.mem_of_getElem? (i := 8) rfl))) Via.refl e9 (own_stak S_VARCHAR K9) (g := (mkF m 19 #[.val (.int p1), .val (.int p2), .unset, .unset, .unset, .unset] [(.int (2 : Int32)), (.ref b3), (.ref b3)])) rfl (hb hby at_19)
  -- Sto22: the object may lie in that array: Sto.of Ar.. (an 'Ovr', by the sheet's words) (an 'Ins' of its class), Shelf42/RW6; carried by Sto.ext E.. | Sto.wr W..
  obtain ⟨cl_22, Ar_b3, q_b3, S_b3, N_b3, H_b3, G_b3⟩ := V_b3_9
  have hin22 := inb_of (j := (2 : Int32)) S_b3 ⟨by decide, by decide⟩
  have Sto22 := Sto.ofV Ar_b3 q_b3 O3 (Ins.self (E_w10.keep K9))
  obtain ⟨T12, h12, X12, e12, W12, st12⟩ := stR X11 hx hZ e11 Ar_b3 (j := (2 : Int32)) hin22 rfl Sto22 (g := (mkF m 22 #[.val (.int p1), .val (.int p2), .unset, .unset, .unset, .unset] [(.ref w10), (.int (2 : Int32)), (.ref b3), (.ref b3)])) rfl rfl (hb hby at_22)
  have V_b3_12 : Arv Z h12 b3 _ (.object "com/example/indexwright/indexwright/sql/ColumnType") (7 : Int32) [(.ref w4), (.ref w7), (.ref w10), .null, .null, .null, .null] .null := Arv.set Ar_b3 q_b3 S_b3 N_b3 H_b3 G_b3 rfl W12 2 rfl (Nat.le_of_ble_eq_true rfl)
  have N12 := Fr.snoc X12 N9 g_b3
  -- Ar_b3.same W12 : the array with (.ref w10) at the place (2 : Int32)
  have K12 : Keep h0 h12 [] := K9.wr W12 (Or.inr sz_b3)
  obtain ⟨T14, X14, e14, st14⟩ := getS2 X12 hx hZ hown (host := "") (Or.inl (hw _ (List.mem_of_getElem? (i := 10) rfl))) Via.refl e12 (own_stak S_BIGINT_ARRAY K12) (g := (mkF m 25 #[.val (.int p1), .val (.int p2), .unset, .unset, .unset, .unset] [(.int (3 : Int32)), (.ref b3), (.ref b3)])) rfl (hb hby at_25)
  -- Sto28: the object may lie in that array: Sto.of Ar.. (an 'Ovr', by the sheet's words) (an 'Ins' of its class), Shelf42/RW6; carried by Sto.ext E.. | Sto.wr W..
  obtain ⟨cl_28, Ar_b3, q_b3, S_b3, N_b3, H_b3, G_b3⟩ := V_b3_12
  have hin28 := inb_of (j := (3 : Int32)) S_b3 ⟨by decide, by decide⟩
  have Sto28 := Sto.ofV Ar_b3 q_b3 O3 (Ins.self (E_w13.keep K12))
  obtain ⟨T15, h15, X15, e15, W15, st15⟩ := stR X14 hx hZ e14 Ar_b3 (j := (3 : Int32)) hin28 rfl Sto28 (g := (mkF m 28 #[.val (.int p1), .val (.int p2), .unset, .unset, .unset, .unset] [(.ref w13), (.int (3 : Int32)), (.ref b3), (.ref b3)])) rfl rfl (hb hby at_28)
  have V_b3_15 : Arv Z h15 b3 _ (.object "com/example/indexwright/indexwright/sql/ColumnType") (7 : Int32) [(.ref w4), (.ref w7), (.ref w10), (.ref w13), .null, .null, .null] .null := Arv.set Ar_b3 q_b3 S_b3 N_b3 H_b3 G_b3 rfl W15 3 rfl (Nat.le_of_ble_eq_true rfl)
  have N15 := Fr.snoc X15 N12 g_b3
  -- Ar_b3.same W15 : the array with (.ref w13) at the place (3 : Int32)
  have K15 : Keep h0 h15 [] := K12.wr W15 (Or.inr sz_b3)
  obtain ⟨T17, X17, e17, st17⟩ := getS2 X15 hx hZ hown (host := "") (Or.inl (hw _ (List.mem_of_getElem? (i := 12) rfl))) Via.refl e15 (own_stak S_DOUBLE_ARRAY K15) (g := (mkF m 31 #[.val (.int p1), .val (.int p2), .unset, .unset, .unset, .unset] [(.int (4 : Int32)), (.ref b3), (.ref b3)])) rfl (hb hby at_31)
  -- Sto34: the object may lie in that array: Sto.of Ar.. (an 'Ovr', by the sheet's words) (an 'Ins' of its class), Shelf42/RW6; carried by Sto.ext E.. | Sto.wr W..
  obtain ⟨cl_34, Ar_b3, q_b3, S_b3, N_b3, H_b3, G_b3⟩ := V_b3_15
  have hin34 := inb_of (j := (4 : Int32)) S_b3 ⟨by decide, by decide⟩
  have Sto34 := Sto.ofV Ar_b3 q_b3 O3 (Ins.self (E_w16.keep K15))
  obtain ⟨T18, h18, X18, e18, W18, st18⟩ := stR X17 hx hZ e17 Ar_b3 (j := (4 : Int32)) hin34 rfl Sto34 (g := (mkF m 34 #[.val (.int p1), .val (.int p2), .unset, .unset, .unset, .unset] [(.ref w16), (.int (4 : Int32)), (.ref b3), (.ref b3)])) rfl rfl (hb hby at_34)
  have V_b3_18 : Arv Z h18 b3 _ (.object "com/example/indexwright/indexwright/sql/ColumnType") (7 : Int32) [(.ref w4), (.ref w7), (.ref w10), (.ref w13), (.ref w16), .null, .null] .null := Arv.set Ar_b3 q_b3 S_b3 N_b3 H_b3 G_b3 rfl W18 4 rfl (Nat.le_of_ble_eq_true rfl)
  have N18 := Fr.snoc X18 N15 g_b3
  -- Ar_b3.same W18 : the array with (.ref w16) at the place (4 : Int32)
  have K18 : Keep h0 h18 [] := K15.wr W18 (Or.inr sz_b3)
  obtain ⟨T20, X20, e20, st20⟩ := getS2 X18 hx hZ hown (host := "") (Or.inl (hw _ (List.mem_of_getElem? (i := 14) rfl))) Via.refl e18 (own_stak S_VARCHAR_ARRAY K18) (g := (mkF m 37 #[.val (.int p1), .val (.int p2), .unset, .unset, .unset, .unset] [(.int (5 : Int32)), (.ref b3), (.ref b3)])) rfl (hb hby at_37)
  -- Sto40: the object may lie in that array: Sto.of Ar.. (an 'Ovr', by the sheet's words) (an 'Ins' of its class), Shelf42/RW6; carried by Sto.ext E.. | Sto.wr W..
  obtain ⟨cl_40, Ar_b3, q_b3, S_b3, N_b3, H_b3, G_b3⟩ := V_b3_18
  have hin40 := inb_of (j := (5 : Int32)) S_b3 ⟨by decide, by decide⟩
  have Sto40 := Sto.ofV Ar_b3 q_b3 O3 (Ins.self (E_w19.keep K18))
  obtain ⟨T21, h21, X21, e21, W21, st21⟩ := stR X20 hx hZ e20 Ar_b3 (j := (5 : Int32)) hin40 rfl Sto40 (g := (mkF m 40 #[.val (.int p1), .val (.int p2), .unset, .unset, .unset, .unset] [(.ref w19), (.int (5 : Int32)), (.ref b3), (.ref b3)])) rfl rfl (hb hby at_40)
  have V_b3_21 : Arv Z h21 b3 _ (.object "com/example/indexwright/indexwright/sql/ColumnType") (7 : Int32) [(.ref w4), (.ref w7), (.ref w10), (.ref w13), (.ref w16), (.ref w19), .null] .null := Arv.set Ar_b3 q_b3 S_b3 N_b3 H_b3 G_b3 rfl W21 5 rfl (Nat.le_of_ble_eq_true rfl)
  have N21 := Fr.snoc X21 N18 g_b3
  -- Ar_b3.same W21 : the array with (.ref w19) at the place (5 : Int32)
  have K21 : Keep h0 h21 [] := K18.wr W21 (Or.inr sz_b3)
  obtain ⟨cl_45, Ar_b3, q_b3, S_b3, N_b3, H_b3, G_b3⟩ := V_b3_21
  have hin45 := inb_of (j := (6 : Int32)) S_b3 ⟨by decide, by decide⟩
  obtain ⟨T22, h22, X22, e22, W22, st22⟩ := stR X21 hx hZ e21 Ar_b3 (j := (6 : Int32)) hin45 rfl (Or.inl rfl) (g := (mkF m 45 #[.val (.int p1), .val (.int p2), .unset, .unset, .unset, .unset] [.null, (.int (6 : Int32)), (.ref b3), (.ref b3)])) rfl rfl (hb hby at_45)
  have V_b3_22 : Arv Z h22 b3 _ (.object "com/example/indexwright/indexwright/sql/ColumnType") (7 : Int32) [(.ref w4), (.ref w7), (.ref w10), (.ref w13), (.ref w16), (.ref w19), .null] .null := Arv.set Ar_b3 q_b3 S_b3 N_b3 H_b3 G_b3 rfl W22 6 rfl (Nat.le_of_ble_eq_true rfl)
  have N22 := Fr.snoc X22 N21 g_b3
  -- Ar_b3.same W22 : the array with .null at the place (6 : Int32)
  have K22 : Keep h0 h22 [] := K21.wr W22 (Or.inr sz_b3)
  obtain ⟨cl_100, Ar_b3_100, q_b3, S_b3, N_b3, H_b3, G_b3⟩ := V_b3_22
  have hin100 := inb_of S_b3 hj100
  have hat100 := H_b3.at hin100 hu100
  have V_b3_p100 : Arv Z h22 b3 _ (.object "com/example/indexwright/indexwright/sql/ColumnType") (7 : Int32) [(.ref w4), (.ref w7), (.ref w10), (.ref w13), (.ref w16), (.ref w19), .null] .null := ⟨cl_100, Ar_b3_100, q_b3, S_b3, N_b3, H_b3, G_b3⟩
  obtain ⟨cl_104, Ar_b3_104, q_b3, S_b3, N_b3, H_b3, G_b3⟩ := V_b3_p100
  have hin104 := inb_of S_b3 hj104
  have hat104 := H_b3.at hin104 hu104
  have V_b3_p104 : Arv Z h22 b3 _ (.object "com/example/indexwright/indexwright/sql/ColumnType") (7 : Int32) [(.ref w4), (.ref w7), (.ref w10), (.ref w13), (.ref w16), (.ref w19), .null] .null := ⟨cl_104, Ar_b3_104, q_b3, S_b3, N_b3, H_b3, G_b3⟩
  -- pc 105: com/example/indexwright/indexwright/sql/ColumnType.holds by the contract of the body that the receiver's class selects, rm1
  obtain ⟨cq25, kq25, q25a, q25b, q25c⟩ := isOf hZ e22 (E_w23.keep K22)
  obtain ⟨_, _, ⟨T25, L25, k25, n25⟩, -, X25, ⟨Lc25, hQ25, l25, y25, z25⟩, st25⟩ := X22.virtualBack hx (y := (⟨"com/example/indexwright/indexwright/sql/ColumnType", "holds", "(Lcom/example/indexwright/indexwright/sql/ColumnType;)Z"⟩ : MethodName)) (z := (⟨"com/example/indexwright/indexwright/sql/ColumnType", "holds", "(Lcom/example/indexwright/indexwright/sql/ColumnType;)Z"⟩ : MethodName)) hown (mvT hZ (hw _ (List.mem_of_getElem? (i := 17) rfl))) (mvT hZ (hw _ (List.mem_of_getElem? (i := 18) rfl))) (notFace_of_selects (args := #[]) (mvT hZ (hw _ (List.mem_of_getElem? (i := 20) rfl)))) (mvT hZ (hw _ (List.mem_of_getElem? (i := 20) rfl))) (mvT hZ (hw _ (List.mem_of_getElem? (i := 19) rfl))) (by decide) (backOf (W := 0) (own_1b l Z a0 hw [] w23 w24 (some (.int r25)) h22 n0 (Nat.le_trans Z0 K22.1) (P1b_keep K22 hP25)) hZ (hw _ (List.mem_of_getElem? (i := 21) rfl)) (hw _ (List.mem_of_getElem? (i := 3) rfl)) (by decide) (by decide)) q25a q25c (g := (mkF m 105 #[.val (.int p1), .val (.int p2), .val (.ref b3), .val (.int ((p1 &&& (2147483647 : Int32)) % (6 : Int32))), .val (.int ((p2 &&& (2147483647 : Int32)) % (7 : Int32))), .val (.int (1 : Int32))] [(.ref w24), (.ref w23)])) rfl (by rw [hml]; rfl) (Steps.refl _) (argsL := [(.ref w24)]) (rest := []) (lenOf pd_0_0 rfl) rfl (by show 2 * 0 + _ ≤ _; exact Nat.le_of_eq rfl) (hb hby at_105) (fun _ _ => ⟨rfl, e22, (by decide : 1 + 0 ≤ _), (by decide : 7 + 0 ≤ _)⟩)
  dsimp only [Pt.U, Pt.locs, Pt.cells, Pt.slots] at X25 l25 y25 z25 st25 hQ25
  subst l25 y25 z25
  obtain ⟨rfl, N25q, e25⟩ := hQ25      -- what it returned, that it wrote nothing old, and the rest of your Q1
  have N25 := Fr.app N22 N25q
  obtain ⟨fs, hr, hrun, hended, hW, hsame⟩ := X25.leave (v := some (.int (1 : Int32))) (fun h => by rw [Bd.returns] at h; cases h)
  refine ⟨_, _, pre0 _ ?_, hrun, hended, _, _, rfl, ?_, ⟨_, rfl⟩, hW, hsame.mono (by decide) (by decide)⟩
  -- 4. STEPS
  · show Steps p.tables e below (s₁.setTop (mkF m 0 #[.val (.int p1), .val (.int p2), .unset, .unset, .unset, .unset] [])) _
    refine XS.bipush X0.here hx rfl (hb hby at_0) ?_
    show Steps p.tables e below (s₁.setTop (mkF m 2 #[.val (.int p1), .val (.int p2), .unset, .unset, .unset, .unset] [(.int (7 : Int32))])) _
    refine st3 _ ?_
    show Steps p.tables e below (T3.setTop (mkF m 5 #[.val (.int p1), .val (.int p2), .unset, .unset, .unset, .unset] [(.ref b3)])) _
    refine XS.dup X3.here hx rfl (hb hby at_5) rfl rfl ?_
    show Steps p.tables e below (T3.setTop (mkF m 6 #[.val (.int p1), .val (.int p2), .unset, .unset, .unset, .unset] [(.ref b3), (.ref b3)])) _
    refine XS.iconst X3.here hx rfl (hb hby at_6) ?_
    show Steps p.tables e below (T3.setTop (mkF m 7 #[.val (.int p1), .val (.int p2), .unset, .unset, .unset, .unset] [(.int (0 : Int32)), (.ref b3), (.ref b3)])) _
    refine st5 _ ?_
    show Steps p.tables e below (T5.setTop (mkF m 10 #[.val (.int p1), .val (.int p2), .unset, .unset, .unset, .unset] [(.ref w4), (.int (0 : Int32)), (.ref b3), (.ref b3)])) _
    refine st6 _ ?_
    show Steps p.tables e below (T6.setTop (mkF m 11 #[.val (.int p1), .val (.int p2), .unset, .unset, .unset, .unset] [(.ref b3)])) _
    refine XS.dup X6.here hx rfl (hb hby at_11) rfl rfl ?_
    show Steps p.tables e below (T6.setTop (mkF m 12 #[.val (.int p1), .val (.int p2), .unset, .unset, .unset, .unset] [(.ref b3), (.ref b3)])) _
    refine XS.iconst X6.here hx rfl (hb hby at_12) ?_
    show Steps p.tables e below (T6.setTop (mkF m 13 #[.val (.int p1), .val (.int p2), .unset, .unset, .unset, .unset] [(.int (1 : Int32)), (.ref b3), (.ref b3)])) _
    refine st8 _ ?_
    show Steps p.tables e below (T8.setTop (mkF m 16 #[.val (.int p1), .val (.int p2), .unset, .unset, .unset, .unset] [(.ref w7), (.int (1 : Int32)), (.ref b3), (.ref b3)])) _
    refine st9 _ ?_
    show Steps p.tables e below (T9.setTop (mkF m 17 #[.val (.int p1), .val (.int p2), .unset, .unset, .unset, .unset] [(.ref b3)])) _
    refine XS.dup X9.here hx rfl (hb hby at_17) rfl rfl ?_
    show Steps p.tables e below (T9.setTop (mkF m 18 #[.val (.int p1), .val (.int p2), .unset, .unset, .unset, .unset] [(.ref b3), (.ref b3)])) _
    refine XS.iconst X9.here hx rfl (hb hby at_18) ?_
    show Steps p.tables e below (T9.setTop (mkF m 19 #[.val (.int p1), .val (.int p2), .unset, .unset, .unset, .unset] [(.int (2 : Int32)), (.ref b3), (.ref b3)])) _
    refine st11 _ ?_
    show Steps p.tables e below (T11.setTop (mkF m 22 #[.val (.int p1), .val (.int p2), .unset, .unset, .unset, .unset] [(.ref w10), (.int (2 : Int32)), (.ref b3), (.ref b3)])) _
    refine st12 _ ?_
    show Steps p.tables e below (T12.setTop (mkF m 23 #[.val (.int p1), .val (.int p2), .unset, .unset, .unset, .unset] [(.ref b3)])) _
    refine XS.dup X12.here hx rfl (hb hby at_23) rfl rfl ?_
    show Steps p.tables e below (T12.setTop (mkF m 24 #[.val (.int p1), .val (.int p2), .unset, .unset, .unset, .unset] [(.ref b3), (.ref b3)])) _
    refine XS.iconst X12.here hx rfl (hb hby at_24) ?_
    show Steps p.tables e below (T12.setTop (mkF m 25 #[.val (.int p1), .val (.int p2), .unset, .unset, .unset, .unset] [(.int (3 : Int32)), (.ref b3), (.ref b3)])) _
    refine st14 _ ?_
    show Steps p.tables e below (T14.setTop (mkF m 28 #[.val (.int p1), .val (.int p2), .unset, .unset, .unset, .unset] [(.ref w13), (.int (3 : Int32)), (.ref b3), (.ref b3)])) _
    refine st15 _ ?_
    show Steps p.tables e below (T15.setTop (mkF m 29 #[.val (.int p1), .val (.int p2), .unset, .unset, .unset, .unset] [(.ref b3)])) _
    refine XS.dup X15.here hx rfl (hb hby at_29) rfl rfl ?_
    show Steps p.tables e below (T15.setTop (mkF m 30 #[.val (.int p1), .val (.int p2), .unset, .unset, .unset, .unset] [(.ref b3), (.ref b3)])) _
    refine XS.iconst X15.here hx rfl (hb hby at_30) ?_
    show Steps p.tables e below (T15.setTop (mkF m 31 #[.val (.int p1), .val (.int p2), .unset, .unset, .unset, .unset] [(.int (4 : Int32)), (.ref b3), (.ref b3)])) _
    refine st17 _ ?_
    show Steps p.tables e below (T17.setTop (mkF m 34 #[.val (.int p1), .val (.int p2), .unset, .unset, .unset, .unset] [(.ref w16), (.int (4 : Int32)), (.ref b3), (.ref b3)])) _
    refine st18 _ ?_
    show Steps p.tables e below (T18.setTop (mkF m 35 #[.val (.int p1), .val (.int p2), .unset, .unset, .unset, .unset] [(.ref b3)])) _
    refine XS.dup X18.here hx rfl (hb hby at_35) rfl rfl ?_
    show Steps p.tables e below (T18.setTop (mkF m 36 #[.val (.int p1), .val (.int p2), .unset, .unset, .unset, .unset] [(.ref b3), (.ref b3)])) _
    refine XS.iconst X18.here hx rfl (hb hby at_36) ?_
    show Steps p.tables e below (T18.setTop (mkF m 37 #[.val (.int p1), .val (.int p2), .unset, .unset, .unset, .unset] [(.int (5 : Int32)), (.ref b3), (.ref b3)])) _
    refine st20 _ ?_
    show Steps p.tables e below (T20.setTop (mkF m 40 #[.val (.int p1), .val (.int p2), .unset, .unset, .unset, .unset] [(.ref w19), (.int (5 : Int32)), (.ref b3), (.ref b3)])) _
    refine st21 _ ?_
    show Steps p.tables e below (T21.setTop (mkF m 41 #[.val (.int p1), .val (.int p2), .unset, .unset, .unset, .unset] [(.ref b3)])) _
    refine XS.dup X21.here hx rfl (hb hby at_41) rfl rfl ?_
    show Steps p.tables e below (T21.setTop (mkF m 42 #[.val (.int p1), .val (.int p2), .unset, .unset, .unset, .unset] [(.ref b3), (.ref b3)])) _
    refine XS.bipush X21.here hx rfl (hb hby at_42) ?_
    show Steps p.tables e below (T21.setTop (mkF m 44 #[.val (.int p1), .val (.int p2), .unset, .unset, .unset, .unset] [(.int (6 : Int32)), (.ref b3), (.ref b3)])) _
    refine XS.aconstNull X21.here hx rfl (hb hby at_44) ?_
    show Steps p.tables e below (T21.setTop (mkF m 45 #[.val (.int p1), .val (.int p2), .unset, .unset, .unset, .unset] [.null, (.int (6 : Int32)), (.ref b3), (.ref b3)])) _
    refine st22 _ ?_
    show Steps p.tables e below (T22.setTop (mkF m 46 #[.val (.int p1), .val (.int p2), .unset, .unset, .unset, .unset] [(.ref b3)])) _
    refine XS.astoreN X22.here hx rfl (hb hby at_46) rfl rfl (l' := #[.val (.int p1), .val (.int p2), .val (.ref b3), .unset, .unset, .unset]) rfl ?_
    show Steps p.tables e below (T22.setTop (mkF m 47 #[.val (.int p1), .val (.int p2), .val (.ref b3), .unset, .unset, .unset] [])) _
    refine XS.iloadN X22.here hx rfl (hb hby at_47) rfl ?_
    show Steps p.tables e below (T22.setTop (mkF m 48 #[.val (.int p1), .val (.int p2), .val (.ref b3), .unset, .unset, .unset] [(.int p1)])) _
    refine X22.ldcInt hx hown (mvT hZ (hw _ (List.mem_of_getElem? (i := 16) rfl))) (g := (mkF m 48 #[.val (.int p1), .val (.int p2), .val (.ref b3), .unset, .unset, .unset] [(.int p1)])) rfl (hb hby at_48) _ ?_
    show Steps p.tables e below (T22.setTop (mkF m 50 #[.val (.int p1), .val (.int p2), .val (.ref b3), .unset, .unset, .unset] [(.int (2147483647 : Int32)), (.int p1)])) _
    refine XS.iand X22.here hx rfl (hb hby at_50) rfl ?_
    show Steps p.tables e below (T22.setTop (mkF m 51 #[.val (.int p1), .val (.int p2), .val (.ref b3), .unset, .unset, .unset] [(.int (p1 &&& (2147483647 : Int32)))])) _
    refine XS.bipush X22.here hx rfl (hb hby at_51) ?_
    show Steps p.tables e below (T22.setTop (mkF m 53 #[.val (.int p1), .val (.int p2), .val (.ref b3), .unset, .unset, .unset] [(.int (6 : Int32)), (.int (p1 &&& (2147483647 : Int32)))])) _
    refine Jvm.RoadKit.iremM X22 hx rfl (hb hby at_53) rfl (by decide) ?_
    show Steps p.tables e below (T22.setTop (mkF m 54 #[.val (.int p1), .val (.int p2), .val (.ref b3), .unset, .unset, .unset] [(.int ((p1 &&& (2147483647 : Int32)) % (6 : Int32)))])) _
    refine XS.istoreN X22.here hx rfl (hb hby at_54) rfl (l' := #[.val (.int p1), .val (.int p2), .val (.ref b3), .val (.int ((p1 &&& (2147483647 : Int32)) % (6 : Int32))), .unset, .unset]) rfl ?_
    show Steps p.tables e below (T22.setTop (mkF m 55 #[.val (.int p1), .val (.int p2), .val (.ref b3), .val (.int ((p1 &&& (2147483647 : Int32)) % (6 : Int32))), .unset, .unset] [])) _
    refine XS.iloadN X22.here hx rfl (hb hby at_55) rfl ?_
    show Steps p.tables e below (T22.setTop (mkF m 56 #[.val (.int p1), .val (.int p2), .val (.ref b3), .val (.int ((p1 &&& (2147483647 : Int32)) % (6 : Int32))), .unset, .unset] [(.int p2)])) _
    refine X22.ldcInt hx hown (mvT hZ (hw _ (List.mem_of_getElem? (i := 16) rfl))) (g := (mkF m 56 #[.val (.int p1), .val (.int p2), .val (.ref b3), .val (.int ((p1 &&& (2147483647 : Int32)) % (6 : Int32))), .unset, .unset] [(.int p2)])) rfl (hb hby at_56) _ ?_
    show Steps p.tables e below (T22.setTop (mkF m 58 #[.val (.int p1), .val (.int p2), .val (.ref b3), .val (.int ((p1 &&& (2147483647 : Int32)) % (6 : Int32))), .unset, .unset] [(.int (2147483647 : Int32)), (.int p2)])) _
    refine XS.iand X22.here hx rfl (hb hby at_58) rfl ?_
    show Steps p.tables e below (T22.setTop (mkF m 59 #[.val (.int p1), .val (.int p2), .val (.ref b3), .val (.int ((p1 &&& (2147483647 : Int32)) % (6 : Int32))), .unset, .unset] [(.int (p2 &&& (2147483647 : Int32)))])) _
    refine XS.bipush X22.here hx rfl (hb hby at_59) ?_
    show Steps p.tables e below (T22.setTop (mkF m 61 #[.val (.int p1), .val (.int p2), .val (.ref b3), .val (.int ((p1 &&& (2147483647 : Int32)) % (6 : Int32))), .unset, .unset] [(.int (7 : Int32)), (.int (p2 &&& (2147483647 : Int32)))])) _
    refine Jvm.RoadKit.iremM X22 hx rfl (hb hby at_61) rfl (by decide) ?_
    show Steps p.tables e below (T22.setTop (mkF m 62 #[.val (.int p1), .val (.int p2), .val (.ref b3), .val (.int ((p1 &&& (2147483647 : Int32)) % (6 : Int32))), .unset, .unset] [(.int ((p2 &&& (2147483647 : Int32)) % (7 : Int32)))])) _
    refine XS.istore X22.here hx rfl (hb hby at_62) rfl (l' := #[.val (.int p1), .val (.int p2), .val (.ref b3), .val (.int ((p1 &&& (2147483647 : Int32)) % (6 : Int32))), .val (.int ((p2 &&& (2147483647 : Int32)) % (7 : Int32))), .unset]) rfl ?_
    show Steps p.tables e below (T22.setTop (mkF m 64 #[.val (.int p1), .val (.int p2), .val (.ref b3), .val (.int ((p1 &&& (2147483647 : Int32)) % (6 : Int32))), .val (.int ((p2 &&& (2147483647 : Int32)) % (7 : Int32))), .unset] [])) _
    refine XS.iload X22.here hx rfl (hb hby at_64) rfl ?_
    show Steps p.tables e below (T22.setTop (mkF m 66 #[.val (.int p1), .val (.int p2), .val (.ref b3), .val (.int ((p1 &&& (2147483647 : Int32)) % (6 : Int32))), .val (.int ((p2 &&& (2147483647 : Int32)) % (7 : Int32))), .unset] [(.int ((p2 &&& (2147483647 : Int32)) % (7 : Int32)))])) _
    refine XS.iloadN X22.here hx rfl (hb hby at_66) rfl ?_
    show Steps p.tables e below (T22.setTop (mkF m 67 #[.val (.int p1), .val (.int p2), .val (.ref b3), .val (.int ((p1 &&& (2147483647 : Int32)) % (6 : Int32))), .val (.int ((p2 &&& (2147483647 : Int32)) % (7 : Int32))), .unset] [(.int ((p1 &&& (2147483647 : Int32)) % (6 : Int32))), (.int ((p2 &&& (2147483647 : Int32)) % (7 : Int32)))])) _
    refine XS.icmpNo X22.here hx rfl (hb hby at_67) rfl (feq hc67).1 ?_
    show Steps p.tables e below (T22.setTop (mkF m 70 #[.val (.int p1), .val (.int p2), .val (.ref b3), .val (.int ((p1 &&& (2147483647 : Int32)) % (6 : Int32))), .val (.int ((p2 &&& (2147483647 : Int32)) % (7 : Int32))), .unset] [])) _
    refine XS.iloadN X22.here hx rfl (hb hby at_70) rfl ?_
    show Steps p.tables e below (T22.setTop (mkF m 71 #[.val (.int p1), .val (.int p2), .val (.ref b3), .val (.int ((p1 &&& (2147483647 : Int32)) % (6 : Int32))), .val (.int ((p2 &&& (2147483647 : Int32)) % (7 : Int32))), .unset] [(.int ((p1 &&& (2147483647 : Int32)) % (6 : Int32)))])) _
    refine XS.iconst X22.here hx rfl (hb hby at_71) ?_
    show Steps p.tables e below (T22.setTop (mkF m 72 #[.val (.int p1), .val (.int p2), .val (.ref b3), .val (.int ((p1 &&& (2147483647 : Int32)) % (6 : Int32))), .val (.int ((p2 &&& (2147483647 : Int32)) % (7 : Int32))), .unset] [(.int (1 : Int32)), (.int ((p1 &&& (2147483647 : Int32)) % (6 : Int32)))])) _
    refine XS.icmpYes X22.here hx rfl (pc0 := 72) (pc' := 80) rfl (hb hby at_72) rfl (feq hc72).2 (by decide) (by decide) ?_
    show Steps p.tables e below (T22.setTop (mkF m 80 #[.val (.int p1), .val (.int p2), .val (.ref b3), .val (.int ((p1 &&& (2147483647 : Int32)) % (6 : Int32))), .val (.int ((p2 &&& (2147483647 : Int32)) % (7 : Int32))), .unset] [])) _
    refine XS.iloadN X22.here hx rfl (hb hby at_80) rfl ?_
    show Steps p.tables e below (T22.setTop (mkF m 81 #[.val (.int p1), .val (.int p2), .val (.ref b3), .val (.int ((p1 &&& (2147483647 : Int32)) % (6 : Int32))), .val (.int ((p2 &&& (2147483647 : Int32)) % (7 : Int32))), .unset] [(.int ((p1 &&& (2147483647 : Int32)) % (6 : Int32)))])) _
    refine XS.iconst X22.here hx rfl (hb hby at_81) ?_
    show Steps p.tables e below (T22.setTop (mkF m 82 #[.val (.int p1), .val (.int p2), .val (.ref b3), .val (.int ((p1 &&& (2147483647 : Int32)) % (6 : Int32))), .val (.int ((p2 &&& (2147483647 : Int32)) % (7 : Int32))), .unset] [(.int (4 : Int32)), (.int ((p1 &&& (2147483647 : Int32)) % (6 : Int32)))])) _
    refine XS.icmpNo X22.here hx rfl (hb hby at_82) rfl (teq hc82).2 ?_
    show Steps p.tables e below (T22.setTop (mkF m 85 #[.val (.int p1), .val (.int p2), .val (.ref b3), .val (.int ((p1 &&& (2147483647 : Int32)) % (6 : Int32))), .val (.int ((p2 &&& (2147483647 : Int32)) % (7 : Int32))), .unset] [])) _
    refine XS.iload X22.here hx rfl (hb hby at_85) rfl ?_
    show Steps p.tables e below (T22.setTop (mkF m 87 #[.val (.int p1), .val (.int p2), .val (.ref b3), .val (.int ((p1 &&& (2147483647 : Int32)) % (6 : Int32))), .val (.int ((p2 &&& (2147483647 : Int32)) % (7 : Int32))), .unset] [(.int ((p2 &&& (2147483647 : Int32)) % (7 : Int32)))])) _
    refine XS.iconst X22.here hx rfl (hb hby at_87) ?_
    show Steps p.tables e below (T22.setTop (mkF m 88 #[.val (.int p1), .val (.int p2), .val (.ref b3), .val (.int ((p1 &&& (2147483647 : Int32)) % (6 : Int32))), .val (.int ((p2 &&& (2147483647 : Int32)) % (7 : Int32))), .unset] [(.int (3 : Int32)), (.int ((p2 &&& (2147483647 : Int32)) % (7 : Int32)))])) _
    refine XS.icmpNo X22.here hx rfl (hb hby at_88) rfl (teq hc88).2 ?_
    show Steps p.tables e below (T22.setTop (mkF m 91 #[.val (.int p1), .val (.int p2), .val (.ref b3), .val (.int ((p1 &&& (2147483647 : Int32)) % (6 : Int32))), .val (.int ((p2 &&& (2147483647 : Int32)) % (7 : Int32))), .unset] [])) _
    refine XS.iconst X22.here hx rfl (hb hby at_91) ?_
    show Steps p.tables e below (T22.setTop (mkF m 92 #[.val (.int p1), .val (.int p2), .val (.ref b3), .val (.int ((p1 &&& (2147483647 : Int32)) % (6 : Int32))), .val (.int ((p2 &&& (2147483647 : Int32)) % (7 : Int32))), .unset] [(.int (1 : Int32))])) _
    refine XS.goto X22.here hx rfl (pc0 := 92) (pc' := 96) rfl (hb hby at_92) (by decide) (by decide) ?_
    show Steps p.tables e below (T22.setTop (mkF m 96 #[.val (.int p1), .val (.int p2), .val (.ref b3), .val (.int ((p1 &&& (2147483647 : Int32)) % (6 : Int32))), .val (.int ((p2 &&& (2147483647 : Int32)) % (7 : Int32))), .unset] [(.int (1 : Int32))])) _
    refine XS.istore X22.here hx rfl (hb hby at_96) rfl (l' := #[.val (.int p1), .val (.int p2), .val (.ref b3), .val (.int ((p1 &&& (2147483647 : Int32)) % (6 : Int32))), .val (.int ((p2 &&& (2147483647 : Int32)) % (7 : Int32))), .val (.int (1 : Int32))]) rfl ?_
    show Steps p.tables e below (T22.setTop (mkF m 98 #[.val (.int p1), .val (.int p2), .val (.ref b3), .val (.int ((p1 &&& (2147483647 : Int32)) % (6 : Int32))), .val (.int ((p2 &&& (2147483647 : Int32)) % (7 : Int32))), .val (.int (1 : Int32))] [])) _
    refine XS.aloadN X22.here hx rfl (hb hby at_98) rfl rfl ?_
    show Steps p.tables e below (T22.setTop (mkF m 99 #[.val (.int p1), .val (.int p2), .val (.ref b3), .val (.int ((p1 &&& (2147483647 : Int32)) % (6 : Int32))), .val (.int ((p2 &&& (2147483647 : Int32)) % (7 : Int32))), .val (.int (1 : Int32))] [(.ref b3)])) _
    refine XS.iloadN X22.here hx rfl (hb hby at_99) rfl ?_
    show Steps p.tables e below (T22.setTop (mkF m 100 #[.val (.int p1), .val (.int p2), .val (.ref b3), .val (.int ((p1 &&& (2147483647 : Int32)) % (6 : Int32))), .val (.int ((p2 &&& (2147483647 : Int32)) % (7 : Int32))), .val (.int (1 : Int32))] [(.int ((p1 &&& (2147483647 : Int32)) % (6 : Int32))), (.ref b3)])) _
    refine X22.aaload hx (j := ((p1 &&& (2147483647 : Int32)) % (6 : Int32))) (v := (.ref w23)) (by rw [e22]; exact Ar_b3_100.1) (State.isArrayOf_alike hZ.alike Ar_b3_100.2.1) rfl Ar_b3_100.2.2 hin100 hat100 (g := (mkF m 100 #[.val (.int p1), .val (.int p2), .val (.ref b3), .val (.int ((p1 &&& (2147483647 : Int32)) % (6 : Int32))), .val (.int ((p2 &&& (2147483647 : Int32)) % (7 : Int32))), .val (.int (1 : Int32))] [(.int ((p1 &&& (2147483647 : Int32)) % (6 : Int32))), (.ref b3)])) rfl rfl (hb hby at_100) _ ?_
    show Steps p.tables e below (T22.setTop (mkF m 101 #[.val (.int p1), .val (.int p2), .val (.ref b3), .val (.int ((p1 &&& (2147483647 : Int32)) % (6 : Int32))), .val (.int ((p2 &&& (2147483647 : Int32)) % (7 : Int32))), .val (.int (1 : Int32))] [(.ref w23)])) _
    refine XS.aloadN X22.here hx rfl (hb hby at_101) rfl rfl ?_
    show Steps p.tables e below (T22.setTop (mkF m 102 #[.val (.int p1), .val (.int p2), .val (.ref b3), .val (.int ((p1 &&& (2147483647 : Int32)) % (6 : Int32))), .val (.int ((p2 &&& (2147483647 : Int32)) % (7 : Int32))), .val (.int (1 : Int32))] [(.ref b3), (.ref w23)])) _
    refine XS.iload X22.here hx rfl (hb hby at_102) rfl ?_
    show Steps p.tables e below (T22.setTop (mkF m 104 #[.val (.int p1), .val (.int p2), .val (.ref b3), .val (.int ((p1 &&& (2147483647 : Int32)) % (6 : Int32))), .val (.int ((p2 &&& (2147483647 : Int32)) % (7 : Int32))), .val (.int (1 : Int32))] [(.int ((p2 &&& (2147483647 : Int32)) % (7 : Int32))), (.ref b3), (.ref w23)])) _
    refine X22.aaload hx (j := ((p2 &&& (2147483647 : Int32)) % (7 : Int32))) (v := (.ref w24)) (by rw [e22]; exact Ar_b3_104.1) (State.isArrayOf_alike hZ.alike Ar_b3_104.2.1) rfl Ar_b3_104.2.2 hin104 hat104 (g := (mkF m 104 #[.val (.int p1), .val (.int p2), .val (.ref b3), .val (.int ((p1 &&& (2147483647 : Int32)) % (6 : Int32))), .val (.int ((p2 &&& (2147483647 : Int32)) % (7 : Int32))), .val (.int (1 : Int32))] [(.int ((p2 &&& (2147483647 : Int32)) % (7 : Int32))), (.ref b3), (.ref w23)])) rfl rfl (hb hby at_104) _ ?_
    show Steps p.tables e below (T22.setTop (mkF m 105 #[.val (.int p1), .val (.int p2), .val (.ref b3), .val (.int ((p1 &&& (2147483647 : Int32)) % (6 : Int32))), .val (.int ((p2 &&& (2147483647 : Int32)) % (7 : Int32))), .val (.int (1 : Int32))] [(.ref w24), (.ref w23)])) _
    refine st25.trans ?_
    show Steps p.tables e below (T25.setTop (mkF m 108 #[.val (.int p1), .val (.int p2), .val (.ref b3), .val (.int ((p1 &&& (2147483647 : Int32)) % (6 : Int32))), .val (.int ((p2 &&& (2147483647 : Int32)) % (7 : Int32))), .val (.int (1 : Int32))] [(.int r25)])) _
    refine XS.iload X25.here hx rfl (hb hby at_108) rfl ?_
    show Steps p.tables e below (T25.setTop (mkF m 110 #[.val (.int p1), .val (.int p2), .val (.ref b3), .val (.int ((p1 &&& (2147483647 : Int32)) % (6 : Int32))), .val (.int ((p2 &&& (2147483647 : Int32)) % (7 : Int32))), .val (.int (1 : Int32))] [(.int (1 : Int32)), (.int r25)])) _
    refine XS.icmpNo X25.here hx rfl (hb hby at_110) rfl (teq hx1).2 ?_
    show Steps p.tables e below (T25.setTop (mkF m 113 #[.val (.int p1), .val (.int p2), .val (.ref b3), .val (.int ((p1 &&& (2147483647 : Int32)) % (6 : Int32))), .val (.int ((p2 &&& (2147483647 : Int32)) % (7 : Int32))), .val (.int (1 : Int32))] [])) _
    refine XS.iconst X25.here hx rfl (hb hby at_113) ?_
    show Steps p.tables e below (T25.setTop (mkF m 114 #[.val (.int p1), .val (.int p2), .val (.ref b3), .val (.int ((p1 &&& (2147483647 : Int32)) % (6 : Int32))), .val (.int ((p2 &&& (2147483647 : Int32)) % (7 : Int32))), .val (.int (1 : Int32))] [(.int (1 : Int32))])) _
    refine XS.goto X25.here hx rfl (pc0 := 114) (pc' := 118) rfl (hb hby at_114) (by decide) (by decide) ?_
    show Steps p.tables e below (T25.setTop (mkF m 118 #[.val (.int p1), .val (.int p2), .val (.ref b3), .val (.int ((p1 &&& (2147483647 : Int32)) % (6 : Int32))), .val (.int ((p2 &&& (2147483647 : Int32)) % (7 : Int32))), .val (.int (1 : Int32))] [(.int (1 : Int32))])) _
    exact retN X25 hx (t := .boolean) Bd.returns (by simp) (hb hby at_118) hr
  · show Q0_ftfff Z p1 p2 w4 w7 w10 w13 w16 w19 w23 w24 h0 n0 _ T25.heap _
    exact ⟨rfl, N25⟩
def Q0_ftftf (Z : State) (p1 : Int32) (p2 : Int32) (w4 : Addr) (w7 : Addr) (w10 : Addr) (w13 : Addr) (w16 : Addr) (w19 : Addr) (w23 : Addr) (w24 : Addr) (h0 : Heap) (n0 : Nat) (v : Option Value) (h : Heap) (L : List Loc) : Prop := v = some (.int (1 : Int32)) ∧ Fr n0 L
set_option maxRecDepth 65536 in
set_option maxHeartbeats 40000000 in
theorem rm0_ftftf (l : Launch) (Z : State) (a0 : Array Value) (hw : ∀ d ∈ tables_1, d.before a0 Z = true) (ws : List Jvm.Cond) (p1 : Int32) (p2 : Int32) (w4 : Addr) (w7 : Addr) (w10 : Addr) (w13 : Addr) (w16 : Addr) (w19 : Addr) (w23 : Addr) (w24 : Addr) (r25 : Int32) (h0 : Heap) (n0 : Nat) (Z0 : n0 ≤ h0.size) (S_BIGINT : Sta Z h0 "com/example/indexwright/indexwright/sql/ColumnType" "BIGINT" "Lcom/example/indexwright/indexwright/sql/ColumnType;" (.ref w4)) (S_DOUBLE : Sta Z h0 "com/example/indexwright/indexwright/sql/ColumnType" "DOUBLE" "Lcom/example/indexwright/indexwright/sql/ColumnType;" (.ref w7)) (S_VARCHAR : Sta Z h0 "com/example/indexwright/indexwright/sql/ColumnType" "VARCHAR" "Lcom/example/indexwright/indexwright/sql/ColumnType;" (.ref w10)) (S_BIGINT_ARRAY : Sta Z h0 "com/example/indexwright/indexwright/sql/ColumnType" "BIGINT_ARRAY" "Lcom/example/indexwright/indexwright/sql/ColumnType;" (.ref w13)) (S_DOUBLE_ARRAY : Sta Z h0 "com/example/indexwright/indexwright/sql/ColumnType" "DOUBLE_ARRAY" "Lcom/example/indexwright/indexwright/sql/ColumnType;" (.ref w16)) (S_VARCHAR_ARRAY : Sta Z h0 "com/example/indexwright/indexwright/sql/ColumnType" "VARCHAR_ARRAY" "Lcom/example/indexwright/indexwright/sql/ColumnType;" (.ref w19)) (E_w23 : Exa Z h0 w23 "com/example/indexwright/indexwright/sql/ColumnType") (hc67 : ¬ (((p2 &&& (2147483647 : Int32)) % (7 : Int32)) = ((p1 &&& (2147483647 : Int32)) % (6 : Int32)))) (hc72 : ¬ (((p1 &&& (2147483647 : Int32)) % (6 : Int32)) = (1 : Int32))) (hc82 : ((p1 &&& (2147483647 : Int32)) % (6 : Int32)) = (4 : Int32)) (hc88 : ¬ (((p2 &&& (2147483647 : Int32)) % (7 : Int32)) = (3 : Int32))) (E_w4 : Exa Z h0 w4 "com/example/indexwright/indexwright/sql/ColumnType") (E_w7 : Exa Z h0 w7 "com/example/indexwright/indexwright/sql/ColumnType") (E_w10 : Exa Z h0 w10 "com/example/indexwright/indexwright/sql/ColumnType") (E_w13 : Exa Z h0 w13 "com/example/indexwright/indexwright/sql/ColumnType") (E_w16 : Exa Z h0 w16 "com/example/indexwright/indexwright/sql/ColumnType") (E_w19 : Exa Z h0 w19 "com/example/indexwright/indexwright/sql/ColumnType") (hj100 : ¬ ((p1 &&& (2147483647 : Int32)) % (6 : Int32)) < 0 ∧ ((p1 &&& (2147483647 : Int32)) % (6 : Int32)) < (7 : Int32)) (hu100 : ([(.ref w4), (.ref w7), (.ref w10), (.ref w13), (.ref w16), (.ref w19), .null] : List Value).getD (((p1 &&& (2147483647 : Int32)) % (6 : Int32))).toNatClampNeg .null = (.ref w23)) (hj104 : ¬ ((p2 &&& (2147483647 : Int32)) % (7 : Int32)) < 0 ∧ ((p2 &&& (2147483647 : Int32)) % (7 : Int32)) < (7 : Int32)) (hu104 : ([(.ref w4), (.ref w7), (.ref w10), (.ref w13), (.ref w16), (.ref w19), .null] : List Value).getD (((p2 &&& (2147483647 : Int32)) % (7 : Int32))).toNatClampNeg .null = (.ref w24)) (hP25 : P1b Z h0 w23 w24 (some (.int r25))) (hx1 : r25 = (0 : Int32)) :
    MetFree l x (head1 (Jvm.Cond.code x code maxLocals ret :: ws) room_1) (fun a U => a = #[(.int p1), (.int p2)] ∧ Z.Warmed39 U.vm ∧ U.heap = h0) (fun _ _ _ _ _ => True) (fun _ U o U' => ∃ v L, o = .returned v ∧ Q0_ftftf Z p1 p2 w4 w7 w10 w13 w16 w19 w23 w24 h0 n0 v U'.heap L ∧ FrameEnd U o U' L room_1.cells room_1.slots) := by
  refine MetFree.of_bodySF (plainFor_of_name pn_0) hisR ?_
  intro p e s m args below meth c s₁ Bd hml0 hP hK
  obtain ⟨rfl, hZ, hh⟩ := hP
  have hx := Bd.exec
  have hby := Bd.bytes
  have hml : c.maxLocals = 6 := hml0
  have hown : s.vm.findClass "com/example/indexwright/indexwright/sql/ColumnTypeHoldsPinLaw" = some m.cls := findClass_of_methodNamed Bd.named
  have hnm := (name_of_methodNamed Bd.named Bd.method).1
  have X0 : Stand p l e room_1 s m #[(.int p1), (.int p2)] below meth c s₁ [] 0 0 := Stand.of_body Bd
  have e0 : s₁.heap = h0 := by rw [← hh, Bd.state]; rfl
  have N0 := Fr.nil n0
  have pre0 : ∀ t, Steps p.tables e below (s₁.setTop (mkF m 0 #[.val (.int p1), .val (.int p2), .unset, .unset, .unset, .unset] [])) t → Steps p.tables e below (s₁.setTop (entryFrame m #[(.int p1), (.int p2)] maxLocals)) t := fun t k => castTop (ef_0 m p1 p2) k
  -- 3. LAWS
  obtain ⟨T3, h3, k3, X3, e3, E3, A3, O3, st3⟩ := newR X0 hx hZ hown (hw _ (List.mem_of_getElem? (i := 0) rfl)) (hw _ (List.mem_of_getElem? (i := 1) rfl)) e0 (g := (mkF m 2 #[.val (.int p1), .val (.int p2), .unset, .unset, .unset, .unset] [(.int (7 : Int32))])) rfl (hb hby at_2) rfl (by decide) (cap := 7) (by decide) (by decide) (by decide) (by decide)
  obtain ⟨b3, g3⟩ : ∃ z, z = h0.size := ⟨_, rfl⟩      -- the fresh array's address
  rw [← g3] at A3 st3
  have V_b3 : Arv Z h3 b3 k3 (.object "com/example/indexwright/indexwright/sql/ColumnType") (7 : Int32) [.null, .null, .null, .null, .null, .null, .null] .null := (Arv.new A3 (by decide)).pad (pad_rep [] .null 7)
  have g_b3 : n0 ≤ b3 := Nat.le_trans Z0 (Nat.le_of_eq g3.symm)
  have sz_b3 : h0.size ≤ b3 := (Nat.le_trans (Keep.refl h0 []).1 (Nat.le_of_eq g3.symm))
  have K3 : Keep h0 h3 [] := (Keep.refl h0 []).ext E3
  obtain ⟨T5, X5, e5, st5⟩ := getS2 X3 hx hZ hown (host := "") (Or.inl (hw _ (List.mem_of_getElem? (i := 2) rfl))) Via.refl e3 (own_stak S_BIGINT K3) (g := (mkF m 7 #[.val (.int p1), .val (.int p2), .unset, .unset, .unset, .unset] [(.int (0 : Int32)), (.ref b3), (.ref b3)])) rfl (hb hby at_7)
  -- Sto10: the object may lie in that array: Sto.of Ar.. (an 'Ovr', by the sheet's words) (an 'Ins' of its class), Shelf42/RW6; carried by Sto.ext E.. | Sto.wr W..
  obtain ⟨cl_10, Ar_b3, q_b3, S_b3, N_b3, H_b3, G_b3⟩ := V_b3
  have hin10 := inb_of (j := (0 : Int32)) S_b3 ⟨by decide, by decide⟩
  have Sto10 := Sto.ofV Ar_b3 q_b3 O3 (Ins.self (E_w4.keep K3))
  obtain ⟨T6, h6, X6, e6, W6, st6⟩ := stR X5 hx hZ e5 Ar_b3 (j := (0 : Int32)) hin10 rfl Sto10 (g := (mkF m 10 #[.val (.int p1), .val (.int p2), .unset, .unset, .unset, .unset] [(.ref w4), (.int (0 : Int32)), (.ref b3), (.ref b3)])) rfl rfl (hb hby at_10)
  have V_b3_6 : Arv Z h6 b3 _ (.object "com/example/indexwright/indexwright/sql/ColumnType") (7 : Int32) [(.ref w4), .null, .null, .null, .null, .null, .null] .null := Arv.set Ar_b3 q_b3 S_b3 N_b3 H_b3 G_b3 rfl W6 0 rfl (Nat.le_of_ble_eq_true rfl)
  have N6 := Fr.snoc X6 N0 g_b3
  -- Ar_b3.same W6 : the array with (.ref w4) at the place (0 : Int32)
  have K6 : Keep h0 h6 [] := K3.wr W6 (Or.inr sz_b3)
  obtain ⟨T8, X8, e8, st8⟩ := getS2 X6 hx hZ hown (host := "") (Or.inl (hw _ (List.mem_of_getElem? (i := 6) rfl))) Via.refl e6 (own_stak S_DOUBLE K6) (g := (mkF m 13 #[.val (.int p1), .val (.int p2), .unset, .unset, .unset, .unset] [(.int (1 : Int32)), (.ref b3), (.ref b3)])) rfl (hb hby at_13)
  -- Sto16: the object may lie in that array: Sto.of Ar.. (an 'Ovr', by the sheet's words) (an 'Ins' of its class), Shelf42/RW6; carried by Sto.ext E.. | Sto.wr W..
  obtain ⟨cl_16, Ar_b3, q_b3, S_b3, N_b3, H_b3, G_b3⟩ := V_b3_6
  have hin16 := inb_of (j := (1 : Int32)) S_b3 ⟨by decide, by decide⟩
  have Sto16 := Sto.ofV Ar_b3 q_b3 O3 (Ins.self (E_w7.keep K6))
  obtain ⟨T9, h9, X9, e9, W9, st9⟩ := stR X8 hx hZ e8 Ar_b3 (j := (1 : Int32)) hin16 rfl Sto16 (g := (mkF m 16 #[.val (.int p1), .val (.int p2), .unset, .unset, .unset, .unset] [(.ref w7), (.int (1 : Int32)), (.ref b3), (.ref b3)])) rfl rfl (hb hby at_16)
  have V_b3_9 : Arv Z h9 b3 _ (.object "com/example/indexwright/indexwright/sql/ColumnType") (7 : Int32) [(.ref w4), (.ref w7), .null, .null, .null, .null, .null] .null := Arv.set Ar_b3 q_b3 S_b3 N_b3 H_b3 G_b3 rfl W9 1 rfl (Nat.le_of_ble_eq_true rfl)
  have N9 := Fr.snoc X9 N6 g_b3
  -- Ar_b3.same W9 : the array with (.ref w7) at the place (1 : Int32)
  have K9 : Keep h0 h9 [] := K6.wr W9 (Or.inr sz_b3)
  obtain ⟨T11, X11, e11, st11⟩ := getS2 X9 hx hZ hown (host := "") (Or.inl (hw _ (List.mem_of_getElem? (i := 8) rfl))) Via.refl e9 (own_stak S_VARCHAR K9) (g := (mkF m 19 #[.val (.int p1), .val (.int p2), .unset, .unset, .unset, .unset] [(.int (2 : Int32)), (.ref b3), (.ref b3)])) rfl (hb hby at_19)
  -- Sto22: the object may lie in that array: Sto.of Ar.. (an 'Ovr', by the sheet's words) (an 'Ins' of its class), Shelf42/RW6; carried by Sto.ext E.. | Sto.wr W..
  obtain ⟨cl_22, Ar_b3, q_b3, S_b3, N_b3, H_b3, G_b3⟩ := V_b3_9
  have hin22 := inb_of (j := (2 : Int32)) S_b3 ⟨by decide, by decide⟩
  have Sto22 := Sto.ofV Ar_b3 q_b3 O3 (Ins.self (E_w10.keep K9))
  obtain ⟨T12, h12, X12, e12, W12, st12⟩ := stR X11 hx hZ e11 Ar_b3 (j := (2 : Int32)) hin22 rfl Sto22 (g := (mkF m 22 #[.val (.int p1), .val (.int p2), .unset, .unset, .unset, .unset] [(.ref w10), (.int (2 : Int32)), (.ref b3), (.ref b3)])) rfl rfl (hb hby at_22)
  have V_b3_12 : Arv Z h12 b3 _ (.object "com/example/indexwright/indexwright/sql/ColumnType") (7 : Int32) [(.ref w4), (.ref w7), (.ref w10), .null, .null, .null, .null] .null := Arv.set Ar_b3 q_b3 S_b3 N_b3 H_b3 G_b3 rfl W12 2 rfl (Nat.le_of_ble_eq_true rfl)
  have N12 := Fr.snoc X12 N9 g_b3
  -- Ar_b3.same W12 : the array with (.ref w10) at the place (2 : Int32)
  have K12 : Keep h0 h12 [] := K9.wr W12 (Or.inr sz_b3)
  obtain ⟨T14, X14, e14, st14⟩ := getS2 X12 hx hZ hown (host := "") (Or.inl (hw _ (List.mem_of_getElem? (i := 10) rfl))) Via.refl e12 (own_stak S_BIGINT_ARRAY K12) (g := (mkF m 25 #[.val (.int p1), .val (.int p2), .unset, .unset, .unset, .unset] [(.int (3 : Int32)), (.ref b3), (.ref b3)])) rfl (hb hby at_25)
  -- Sto28: the object may lie in that array: Sto.of Ar.. (an 'Ovr', by the sheet's words) (an 'Ins' of its class), Shelf42/RW6; carried by Sto.ext E.. | Sto.wr W..
  obtain ⟨cl_28, Ar_b3, q_b3, S_b3, N_b3, H_b3, G_b3⟩ := V_b3_12
  have hin28 := inb_of (j := (3 : Int32)) S_b3 ⟨by decide, by decide⟩
  have Sto28 := Sto.ofV Ar_b3 q_b3 O3 (Ins.self (E_w13.keep K12))
  obtain ⟨T15, h15, X15, e15, W15, st15⟩ := stR X14 hx hZ e14 Ar_b3 (j := (3 : Int32)) hin28 rfl Sto28 (g := (mkF m 28 #[.val (.int p1), .val (.int p2), .unset, .unset, .unset, .unset] [(.ref w13), (.int (3 : Int32)), (.ref b3), (.ref b3)])) rfl rfl (hb hby at_28)
  have V_b3_15 : Arv Z h15 b3 _ (.object "com/example/indexwright/indexwright/sql/ColumnType") (7 : Int32) [(.ref w4), (.ref w7), (.ref w10), (.ref w13), .null, .null, .null] .null := Arv.set Ar_b3 q_b3 S_b3 N_b3 H_b3 G_b3 rfl W15 3 rfl (Nat.le_of_ble_eq_true rfl)
  have N15 := Fr.snoc X15 N12 g_b3
  -- Ar_b3.same W15 : the array with (.ref w13) at the place (3 : Int32)
  have K15 : Keep h0 h15 [] := K12.wr W15 (Or.inr sz_b3)
  obtain ⟨T17, X17, e17, st17⟩ := getS2 X15 hx hZ hown (host := "") (Or.inl (hw _ (List.mem_of_getElem? (i := 12) rfl))) Via.refl e15 (own_stak S_DOUBLE_ARRAY K15) (g := (mkF m 31 #[.val (.int p1), .val (.int p2), .unset, .unset, .unset, .unset] [(.int (4 : Int32)), (.ref b3), (.ref b3)])) rfl (hb hby at_31)
  -- Sto34: the object may lie in that array: Sto.of Ar.. (an 'Ovr', by the sheet's words) (an 'Ins' of its class), Shelf42/RW6; carried by Sto.ext E.. | Sto.wr W..
  obtain ⟨cl_34, Ar_b3, q_b3, S_b3, N_b3, H_b3, G_b3⟩ := V_b3_15
  have hin34 := inb_of (j := (4 : Int32)) S_b3 ⟨by decide, by decide⟩
  have Sto34 := Sto.ofV Ar_b3 q_b3 O3 (Ins.self (E_w16.keep K15))
  obtain ⟨T18, h18, X18, e18, W18, st18⟩ := stR X17 hx hZ e17 Ar_b3 (j := (4 : Int32)) hin34 rfl Sto34 (g := (mkF m 34 #[.val (.int p1), .val (.int p2), .unset, .unset, .unset, .unset] [(.ref w16), (.int (4 : Int32)), (.ref b3), (.ref b3)])) rfl rfl (hb hby at_34)
  have V_b3_18 : Arv Z h18 b3 _ (.object "com/example/indexwright/indexwright/sql/ColumnType") (7 : Int32) [(.ref w4), (.ref w7), (.ref w10), (.ref w13), (.ref w16), .null, .null] .null := Arv.set Ar_b3 q_b3 S_b3 N_b3 H_b3 G_b3 rfl W18 4 rfl (Nat.le_of_ble_eq_true rfl)
  have N18 := Fr.snoc X18 N15 g_b3
  -- Ar_b3.same W18 : the array with (.ref w16) at the place (4 : Int32)
  have K18 : Keep h0 h18 [] := K15.wr W18 (Or.inr sz_b3)
  obtain ⟨T20, X20, e20, st20⟩ := getS2 X18 hx hZ hown (host := "") (Or.inl (hw _ (List.mem_of_getElem? (i := 14) rfl))) Via.refl e18 (own_stak S_VARCHAR_ARRAY K18) (g := (mkF m 37 #[.val (.int p1), .val (.int p2), .unset, .unset, .unset, .unset] [(.int (5 : Int32)), (.ref b3), (.ref b3)])) rfl (hb hby at_37)
  -- Sto40: the object may lie in that array: Sto.of Ar.. (an 'Ovr', by the sheet's words) (an 'Ins' of its class), Shelf42/RW6; carried by Sto.ext E.. | Sto.wr W..
  obtain ⟨cl_40, Ar_b3, q_b3, S_b3, N_b3, H_b3, G_b3⟩ := V_b3_18
  have hin40 := inb_of (j := (5 : Int32)) S_b3 ⟨by decide, by decide⟩
  have Sto40 := Sto.ofV Ar_b3 q_b3 O3 (Ins.self (E_w19.keep K18))
  obtain ⟨T21, h21, X21, e21, W21, st21⟩ := stR X20 hx hZ e20 Ar_b3 (j := (5 : Int32)) hin40 rfl Sto40 (g := (mkF m 40 #[.val (.int p1), .val (.int p2), .unset, .unset, .unset, .unset] [(.ref w19), (.int (5 : Int32)), (.ref b3), (.ref b3)])) rfl rfl (hb hby at_40)
  have V_b3_21 : Arv Z h21 b3 _ (.object "com/example/indexwright/indexwright/sql/ColumnType") (7 : Int32) [(.ref w4), (.ref w7), (.ref w10), (.ref w13), (.ref w16), (.ref w19), .null] .null := Arv.set Ar_b3 q_b3 S_b3 N_b3 H_b3 G_b3 rfl W21 5 rfl (Nat.le_of_ble_eq_true rfl)
  have N21 := Fr.snoc X21 N18 g_b3
  -- Ar_b3.same W21 : the array with (.ref w19) at the place (5 : Int32)
  have K21 : Keep h0 h21 [] := K18.wr W21 (Or.inr sz_b3)
  obtain ⟨cl_45, Ar_b3, q_b3, S_b3, N_b3, H_b3, G_b3⟩ := V_b3_21
  have hin45 := inb_of (j := (6 : Int32)) S_b3 ⟨by decide, by decide⟩
  obtain ⟨T22, h22, X22, e22, W22, st22⟩ := stR X21 hx hZ e21 Ar_b3 (j := (6 : Int32)) hin45 rfl (Or.inl rfl) (g := (mkF m 45 #[.val (.int p1), .val (.int p2), .unset, .unset, .unset, .unset] [.null, (.int (6 : Int32)), (.ref b3), (.ref b3)])) rfl rfl (hb hby at_45)
  have V_b3_22 : Arv Z h22 b3 _ (.object "com/example/indexwright/indexwright/sql/ColumnType") (7 : Int32) [(.ref w4), (.ref w7), (.ref w10), (.ref w13), (.ref w16), (.ref w19), .null] .null := Arv.set Ar_b3 q_b3 S_b3 N_b3 H_b3 G_b3 rfl W22 6 rfl (Nat.le_of_ble_eq_true rfl)
  have N22 := Fr.snoc X22 N21 g_b3
  -- Ar_b3.same W22 : the array with .null at the place (6 : Int32)
  have K22 : Keep h0 h22 [] := K21.wr W22 (Or.inr sz_b3)
  obtain ⟨cl_100, Ar_b3_100, q_b3, S_b3, N_b3, H_b3, G_b3⟩ := V_b3_22
  have hin100 := inb_of S_b3 hj100
  have hat100 := H_b3.at hin100 hu100
  have V_b3_p100 : Arv Z h22 b3 _ (.object "com/example/indexwright/indexwright/sql/ColumnType") (7 : Int32) [(.ref w4), (.ref w7), (.ref w10), (.ref w13), (.ref w16), (.ref w19), .null] .null := ⟨cl_100, Ar_b3_100, q_b3, S_b3, N_b3, H_b3, G_b3⟩
  obtain ⟨cl_104, Ar_b3_104, q_b3, S_b3, N_b3, H_b3, G_b3⟩ := V_b3_p100
  have hin104 := inb_of S_b3 hj104
  have hat104 := H_b3.at hin104 hu104
  have V_b3_p104 : Arv Z h22 b3 _ (.object "com/example/indexwright/indexwright/sql/ColumnType") (7 : Int32) [(.ref w4), (.ref w7), (.ref w10), (.ref w13), (.ref w16), (.ref w19), .null] .null := ⟨cl_104, Ar_b3_104, q_b3, S_b3, N_b3, H_b3, G_b3⟩
  -- pc 105: com/example/indexwright/indexwright/sql/ColumnType.holds by the contract of the body that the receiver's class selects, rm1
  obtain ⟨cq25, kq25, q25a, q25b, q25c⟩ := isOf hZ e22 (E_w23.keep K22)
  obtain ⟨_, _, ⟨T25, L25, k25, n25⟩, -, X25, ⟨Lc25, hQ25, l25, y25, z25⟩, st25⟩ := X22.virtualBack hx (y := (⟨"com/example/indexwright/indexwright/sql/ColumnType", "holds", "(Lcom/example/indexwright/indexwright/sql/ColumnType;)Z"⟩ : MethodName)) (z := (⟨"com/example/indexwright/indexwright/sql/ColumnType", "holds", "(Lcom/example/indexwright/indexwright/sql/ColumnType;)Z"⟩ : MethodName)) hown (mvT hZ (hw _ (List.mem_of_getElem? (i := 17) rfl))) (mvT hZ (hw _ (List.mem_of_getElem? (i := 18) rfl))) (notFace_of_selects (args := #[]) (mvT hZ (hw _ (List.mem_of_getElem? (i := 20) rfl)))) (mvT hZ (hw _ (List.mem_of_getElem? (i := 20) rfl))) (mvT hZ (hw _ (List.mem_of_getElem? (i := 19) rfl))) (by decide) (backOf (W := 0) (own_1b l Z a0 hw [] w23 w24 (some (.int r25)) h22 n0 (Nat.le_trans Z0 K22.1) (P1b_keep K22 hP25)) hZ (hw _ (List.mem_of_getElem? (i := 21) rfl)) (hw _ (List.mem_of_getElem? (i := 3) rfl)) (by decide) (by decide)) q25a q25c (g := (mkF m 105 #[.val (.int p1), .val (.int p2), .val (.ref b3), .val (.int ((p1 &&& (2147483647 : Int32)) % (6 : Int32))), .val (.int ((p2 &&& (2147483647 : Int32)) % (7 : Int32))), .val (.int (0 : Int32))] [(.ref w24), (.ref w23)])) rfl (by rw [hml]; rfl) (Steps.refl _) (argsL := [(.ref w24)]) (rest := []) (lenOf pd_0_0 rfl) rfl (by show 2 * 0 + _ ≤ _; exact Nat.le_of_eq rfl) (hb hby at_105) (fun _ _ => ⟨rfl, e22, (by decide : 1 + 0 ≤ _), (by decide : 7 + 0 ≤ _)⟩)
  dsimp only [Pt.U, Pt.locs, Pt.cells, Pt.slots] at X25 l25 y25 z25 st25 hQ25
  subst l25 y25 z25
  obtain ⟨rfl, N25q, e25⟩ := hQ25      -- what it returned, that it wrote nothing old, and the rest of your Q1
  have N25 := Fr.app N22 N25q
  obtain ⟨fs, hr, hrun, hended, hW, hsame⟩ := X25.leave (v := some (.int (1 : Int32))) (fun h => by rw [Bd.returns] at h; cases h)
  refine ⟨_, _, pre0 _ ?_, hrun, hended, _, _, rfl, ?_, ⟨_, rfl⟩, hW, hsame.mono (by decide) (by decide)⟩
  -- 4. STEPS
  · show Steps p.tables e below (s₁.setTop (mkF m 0 #[.val (.int p1), .val (.int p2), .unset, .unset, .unset, .unset] [])) _
    refine XS.bipush X0.here hx rfl (hb hby at_0) ?_
    show Steps p.tables e below (s₁.setTop (mkF m 2 #[.val (.int p1), .val (.int p2), .unset, .unset, .unset, .unset] [(.int (7 : Int32))])) _
    refine st3 _ ?_
    show Steps p.tables e below (T3.setTop (mkF m 5 #[.val (.int p1), .val (.int p2), .unset, .unset, .unset, .unset] [(.ref b3)])) _
    refine XS.dup X3.here hx rfl (hb hby at_5) rfl rfl ?_
    show Steps p.tables e below (T3.setTop (mkF m 6 #[.val (.int p1), .val (.int p2), .unset, .unset, .unset, .unset] [(.ref b3), (.ref b3)])) _
    refine XS.iconst X3.here hx rfl (hb hby at_6) ?_
    show Steps p.tables e below (T3.setTop (mkF m 7 #[.val (.int p1), .val (.int p2), .unset, .unset, .unset, .unset] [(.int (0 : Int32)), (.ref b3), (.ref b3)])) _
    refine st5 _ ?_
    show Steps p.tables e below (T5.setTop (mkF m 10 #[.val (.int p1), .val (.int p2), .unset, .unset, .unset, .unset] [(.ref w4), (.int (0 : Int32)), (.ref b3), (.ref b3)])) _
    refine st6 _ ?_
    show Steps p.tables e below (T6.setTop (mkF m 11 #[.val (.int p1), .val (.int p2), .unset, .unset, .unset, .unset] [(.ref b3)])) _
    refine XS.dup X6.here hx rfl (hb hby at_11) rfl rfl ?_
    show Steps p.tables e below (T6.setTop (mkF m 12 #[.val (.int p1), .val (.int p2), .unset, .unset, .unset, .unset] [(.ref b3), (.ref b3)])) _
    refine XS.iconst X6.here hx rfl (hb hby at_12) ?_
    show Steps p.tables e below (T6.setTop (mkF m 13 #[.val (.int p1), .val (.int p2), .unset, .unset, .unset, .unset] [(.int (1 : Int32)), (.ref b3), (.ref b3)])) _
    refine st8 _ ?_
    show Steps p.tables e below (T8.setTop (mkF m 16 #[.val (.int p1), .val (.int p2), .unset, .unset, .unset, .unset] [(.ref w7), (.int (1 : Int32)), (.ref b3), (.ref b3)])) _
    refine st9 _ ?_
    show Steps p.tables e below (T9.setTop (mkF m 17 #[.val (.int p1), .val (.int p2), .unset, .unset, .unset, .unset] [(.ref b3)])) _
    refine XS.dup X9.here hx rfl (hb hby at_17) rfl rfl ?_
    show Steps p.tables e below (T9.setTop (mkF m 18 #[.val (.int p1), .val (.int p2), .unset, .unset, .unset, .unset] [(.ref b3), (.ref b3)])) _
    refine XS.iconst X9.here hx rfl (hb hby at_18) ?_
    show Steps p.tables e below (T9.setTop (mkF m 19 #[.val (.int p1), .val (.int p2), .unset, .unset, .unset, .unset] [(.int (2 : Int32)), (.ref b3), (.ref b3)])) _
    refine st11 _ ?_
    show Steps p.tables e below (T11.setTop (mkF m 22 #[.val (.int p1), .val (.int p2), .unset, .unset, .unset, .unset] [(.ref w10), (.int (2 : Int32)), (.ref b3), (.ref b3)])) _
    refine st12 _ ?_
    show Steps p.tables e below (T12.setTop (mkF m 23 #[.val (.int p1), .val (.int p2), .unset, .unset, .unset, .unset] [(.ref b3)])) _
    refine XS.dup X12.here hx rfl (hb hby at_23) rfl rfl ?_
    show Steps p.tables e below (T12.setTop (mkF m 24 #[.val (.int p1), .val (.int p2), .unset, .unset, .unset, .unset] [(.ref b3), (.ref b3)])) _
    refine XS.iconst X12.here hx rfl (hb hby at_24) ?_
    show Steps p.tables e below (T12.setTop (mkF m 25 #[.val (.int p1), .val (.int p2), .unset, .unset, .unset, .unset] [(.int (3 : Int32)), (.ref b3), (.ref b3)])) _
    refine st14 _ ?_
    show Steps p.tables e below (T14.setTop (mkF m 28 #[.val (.int p1), .val (.int p2), .unset, .unset, .unset, .unset] [(.ref w13), (.int (3 : Int32)), (.ref b3), (.ref b3)])) _
    refine st15 _ ?_
    show Steps p.tables e below (T15.setTop (mkF m 29 #[.val (.int p1), .val (.int p2), .unset, .unset, .unset, .unset] [(.ref b3)])) _
    refine XS.dup X15.here hx rfl (hb hby at_29) rfl rfl ?_
    show Steps p.tables e below (T15.setTop (mkF m 30 #[.val (.int p1), .val (.int p2), .unset, .unset, .unset, .unset] [(.ref b3), (.ref b3)])) _
    refine XS.iconst X15.here hx rfl (hb hby at_30) ?_
    show Steps p.tables e below (T15.setTop (mkF m 31 #[.val (.int p1), .val (.int p2), .unset, .unset, .unset, .unset] [(.int (4 : Int32)), (.ref b3), (.ref b3)])) _
    refine st17 _ ?_
    show Steps p.tables e below (T17.setTop (mkF m 34 #[.val (.int p1), .val (.int p2), .unset, .unset, .unset, .unset] [(.ref w16), (.int (4 : Int32)), (.ref b3), (.ref b3)])) _
    refine st18 _ ?_
    show Steps p.tables e below (T18.setTop (mkF m 35 #[.val (.int p1), .val (.int p2), .unset, .unset, .unset, .unset] [(.ref b3)])) _
    refine XS.dup X18.here hx rfl (hb hby at_35) rfl rfl ?_
    show Steps p.tables e below (T18.setTop (mkF m 36 #[.val (.int p1), .val (.int p2), .unset, .unset, .unset, .unset] [(.ref b3), (.ref b3)])) _
    refine XS.iconst X18.here hx rfl (hb hby at_36) ?_
    show Steps p.tables e below (T18.setTop (mkF m 37 #[.val (.int p1), .val (.int p2), .unset, .unset, .unset, .unset] [(.int (5 : Int32)), (.ref b3), (.ref b3)])) _
    refine st20 _ ?_
    show Steps p.tables e below (T20.setTop (mkF m 40 #[.val (.int p1), .val (.int p2), .unset, .unset, .unset, .unset] [(.ref w19), (.int (5 : Int32)), (.ref b3), (.ref b3)])) _
    refine st21 _ ?_
    show Steps p.tables e below (T21.setTop (mkF m 41 #[.val (.int p1), .val (.int p2), .unset, .unset, .unset, .unset] [(.ref b3)])) _
    refine XS.dup X21.here hx rfl (hb hby at_41) rfl rfl ?_
    show Steps p.tables e below (T21.setTop (mkF m 42 #[.val (.int p1), .val (.int p2), .unset, .unset, .unset, .unset] [(.ref b3), (.ref b3)])) _
    refine XS.bipush X21.here hx rfl (hb hby at_42) ?_
    show Steps p.tables e below (T21.setTop (mkF m 44 #[.val (.int p1), .val (.int p2), .unset, .unset, .unset, .unset] [(.int (6 : Int32)), (.ref b3), (.ref b3)])) _
    refine XS.aconstNull X21.here hx rfl (hb hby at_44) ?_
    show Steps p.tables e below (T21.setTop (mkF m 45 #[.val (.int p1), .val (.int p2), .unset, .unset, .unset, .unset] [.null, (.int (6 : Int32)), (.ref b3), (.ref b3)])) _
    refine st22 _ ?_
    show Steps p.tables e below (T22.setTop (mkF m 46 #[.val (.int p1), .val (.int p2), .unset, .unset, .unset, .unset] [(.ref b3)])) _
    refine XS.astoreN X22.here hx rfl (hb hby at_46) rfl rfl (l' := #[.val (.int p1), .val (.int p2), .val (.ref b3), .unset, .unset, .unset]) rfl ?_
    show Steps p.tables e below (T22.setTop (mkF m 47 #[.val (.int p1), .val (.int p2), .val (.ref b3), .unset, .unset, .unset] [])) _
    refine XS.iloadN X22.here hx rfl (hb hby at_47) rfl ?_
    show Steps p.tables e below (T22.setTop (mkF m 48 #[.val (.int p1), .val (.int p2), .val (.ref b3), .unset, .unset, .unset] [(.int p1)])) _
    refine X22.ldcInt hx hown (mvT hZ (hw _ (List.mem_of_getElem? (i := 16) rfl))) (g := (mkF m 48 #[.val (.int p1), .val (.int p2), .val (.ref b3), .unset, .unset, .unset] [(.int p1)])) rfl (hb hby at_48) _ ?_
    show Steps p.tables e below (T22.setTop (mkF m 50 #[.val (.int p1), .val (.int p2), .val (.ref b3), .unset, .unset, .unset] [(.int (2147483647 : Int32)), (.int p1)])) _
    refine XS.iand X22.here hx rfl (hb hby at_50) rfl ?_
    show Steps p.tables e below (T22.setTop (mkF m 51 #[.val (.int p1), .val (.int p2), .val (.ref b3), .unset, .unset, .unset] [(.int (p1 &&& (2147483647 : Int32)))])) _
    refine XS.bipush X22.here hx rfl (hb hby at_51) ?_
    show Steps p.tables e below (T22.setTop (mkF m 53 #[.val (.int p1), .val (.int p2), .val (.ref b3), .unset, .unset, .unset] [(.int (6 : Int32)), (.int (p1 &&& (2147483647 : Int32)))])) _
    refine Jvm.RoadKit.iremM X22 hx rfl (hb hby at_53) rfl (by decide) ?_
    show Steps p.tables e below (T22.setTop (mkF m 54 #[.val (.int p1), .val (.int p2), .val (.ref b3), .unset, .unset, .unset] [(.int ((p1 &&& (2147483647 : Int32)) % (6 : Int32)))])) _
    refine XS.istoreN X22.here hx rfl (hb hby at_54) rfl (l' := #[.val (.int p1), .val (.int p2), .val (.ref b3), .val (.int ((p1 &&& (2147483647 : Int32)) % (6 : Int32))), .unset, .unset]) rfl ?_
    show Steps p.tables e below (T22.setTop (mkF m 55 #[.val (.int p1), .val (.int p2), .val (.ref b3), .val (.int ((p1 &&& (2147483647 : Int32)) % (6 : Int32))), .unset, .unset] [])) _
    refine XS.iloadN X22.here hx rfl (hb hby at_55) rfl ?_
    show Steps p.tables e below (T22.setTop (mkF m 56 #[.val (.int p1), .val (.int p2), .val (.ref b3), .val (.int ((p1 &&& (2147483647 : Int32)) % (6 : Int32))), .unset, .unset] [(.int p2)])) _
    refine X22.ldcInt hx hown (mvT hZ (hw _ (List.mem_of_getElem? (i := 16) rfl))) (g := (mkF m 56 #[.val (.int p1), .val (.int p2), .val (.ref b3), .val (.int ((p1 &&& (2147483647 : Int32)) % (6 : Int32))), .unset, .unset] [(.int p2)])) rfl (hb hby at_56) _ ?_
    show Steps p.tables e below (T22.setTop (mkF m 58 #[.val (.int p1), .val (.int p2), .val (.ref b3), .val (.int ((p1 &&& (2147483647 : Int32)) % (6 : Int32))), .unset, .unset] [(.int (2147483647 : Int32)), (.int p2)])) _
    refine XS.iand X22.here hx rfl (hb hby at_58) rfl ?_
    show Steps p.tables e below (T22.setTop (mkF m 59 #[.val (.int p1), .val (.int p2), .val (.ref b3), .val (.int ((p1 &&& (2147483647 : Int32)) % (6 : Int32))), .unset, .unset] [(.int (p2 &&& (2147483647 : Int32)))])) _
    refine XS.bipush X22.here hx rfl (hb hby at_59) ?_
    show Steps p.tables e below (T22.setTop (mkF m 61 #[.val (.int p1), .val (.int p2), .val (.ref b3), .val (.int ((p1 &&& (2147483647 : Int32)) % (6 : Int32))), .unset, .unset] [(.int (7 : Int32)), (.int (p2 &&& (2147483647 : Int32)))])) _
    refine Jvm.RoadKit.iremM X22 hx rfl (hb hby at_61) rfl (by decide) ?_
    show Steps p.tables e below (T22.setTop (mkF m 62 #[.val (.int p1), .val (.int p2), .val (.ref b3), .val (.int ((p1 &&& (2147483647 : Int32)) % (6 : Int32))), .unset, .unset] [(.int ((p2 &&& (2147483647 : Int32)) % (7 : Int32)))])) _
    refine XS.istore X22.here hx rfl (hb hby at_62) rfl (l' := #[.val (.int p1), .val (.int p2), .val (.ref b3), .val (.int ((p1 &&& (2147483647 : Int32)) % (6 : Int32))), .val (.int ((p2 &&& (2147483647 : Int32)) % (7 : Int32))), .unset]) rfl ?_
    show Steps p.tables e below (T22.setTop (mkF m 64 #[.val (.int p1), .val (.int p2), .val (.ref b3), .val (.int ((p1 &&& (2147483647 : Int32)) % (6 : Int32))), .val (.int ((p2 &&& (2147483647 : Int32)) % (7 : Int32))), .unset] [])) _
    refine XS.iload X22.here hx rfl (hb hby at_64) rfl ?_
    show Steps p.tables e below (T22.setTop (mkF m 66 #[.val (.int p1), .val (.int p2), .val (.ref b3), .val (.int ((p1 &&& (2147483647 : Int32)) % (6 : Int32))), .val (.int ((p2 &&& (2147483647 : Int32)) % (7 : Int32))), .unset] [(.int ((p2 &&& (2147483647 : Int32)) % (7 : Int32)))])) _
    refine XS.iloadN X22.here hx rfl (hb hby at_66) rfl ?_
    show Steps p.tables e below (T22.setTop (mkF m 67 #[.val (.int p1), .val (.int p2), .val (.ref b3), .val (.int ((p1 &&& (2147483647 : Int32)) % (6 : Int32))), .val (.int ((p2 &&& (2147483647 : Int32)) % (7 : Int32))), .unset] [(.int ((p1 &&& (2147483647 : Int32)) % (6 : Int32))), (.int ((p2 &&& (2147483647 : Int32)) % (7 : Int32)))])) _
    refine XS.icmpNo X22.here hx rfl (hb hby at_67) rfl (feq hc67).1 ?_
    show Steps p.tables e below (T22.setTop (mkF m 70 #[.val (.int p1), .val (.int p2), .val (.ref b3), .val (.int ((p1 &&& (2147483647 : Int32)) % (6 : Int32))), .val (.int ((p2 &&& (2147483647 : Int32)) % (7 : Int32))), .unset] [])) _
    refine XS.iloadN X22.here hx rfl (hb hby at_70) rfl ?_
    show Steps p.tables e below (T22.setTop (mkF m 71 #[.val (.int p1), .val (.int p2), .val (.ref b3), .val (.int ((p1 &&& (2147483647 : Int32)) % (6 : Int32))), .val (.int ((p2 &&& (2147483647 : Int32)) % (7 : Int32))), .unset] [(.int ((p1 &&& (2147483647 : Int32)) % (6 : Int32)))])) _
    refine XS.iconst X22.here hx rfl (hb hby at_71) ?_
    show Steps p.tables e below (T22.setTop (mkF m 72 #[.val (.int p1), .val (.int p2), .val (.ref b3), .val (.int ((p1 &&& (2147483647 : Int32)) % (6 : Int32))), .val (.int ((p2 &&& (2147483647 : Int32)) % (7 : Int32))), .unset] [(.int (1 : Int32)), (.int ((p1 &&& (2147483647 : Int32)) % (6 : Int32)))])) _
    refine XS.icmpYes X22.here hx rfl (pc0 := 72) (pc' := 80) rfl (hb hby at_72) rfl (feq hc72).2 (by decide) (by decide) ?_
    show Steps p.tables e below (T22.setTop (mkF m 80 #[.val (.int p1), .val (.int p2), .val (.ref b3), .val (.int ((p1 &&& (2147483647 : Int32)) % (6 : Int32))), .val (.int ((p2 &&& (2147483647 : Int32)) % (7 : Int32))), .unset] [])) _
    refine XS.iloadN X22.here hx rfl (hb hby at_80) rfl ?_
    show Steps p.tables e below (T22.setTop (mkF m 81 #[.val (.int p1), .val (.int p2), .val (.ref b3), .val (.int ((p1 &&& (2147483647 : Int32)) % (6 : Int32))), .val (.int ((p2 &&& (2147483647 : Int32)) % (7 : Int32))), .unset] [(.int ((p1 &&& (2147483647 : Int32)) % (6 : Int32)))])) _
    refine XS.iconst X22.here hx rfl (hb hby at_81) ?_
    show Steps p.tables e below (T22.setTop (mkF m 82 #[.val (.int p1), .val (.int p2), .val (.ref b3), .val (.int ((p1 &&& (2147483647 : Int32)) % (6 : Int32))), .val (.int ((p2 &&& (2147483647 : Int32)) % (7 : Int32))), .unset] [(.int (4 : Int32)), (.int ((p1 &&& (2147483647 : Int32)) % (6 : Int32)))])) _
    refine XS.icmpNo X22.here hx rfl (hb hby at_82) rfl (teq hc82).2 ?_
    show Steps p.tables e below (T22.setTop (mkF m 85 #[.val (.int p1), .val (.int p2), .val (.ref b3), .val (.int ((p1 &&& (2147483647 : Int32)) % (6 : Int32))), .val (.int ((p2 &&& (2147483647 : Int32)) % (7 : Int32))), .unset] [])) _
    refine XS.iload X22.here hx rfl (hb hby at_85) rfl ?_
    show Steps p.tables e below (T22.setTop (mkF m 87 #[.val (.int p1), .val (.int p2), .val (.ref b3), .val (.int ((p1 &&& (2147483647 : Int32)) % (6 : Int32))), .val (.int ((p2 &&& (2147483647 : Int32)) % (7 : Int32))), .unset] [(.int ((p2 &&& (2147483647 : Int32)) % (7 : Int32)))])) _
    refine XS.iconst X22.here hx rfl (hb hby at_87) ?_
    show Steps p.tables e below (T22.setTop (mkF m 88 #[.val (.int p1), .val (.int p2), .val (.ref b3), .val (.int ((p1 &&& (2147483647 : Int32)) % (6 : Int32))), .val (.int ((p2 &&& (2147483647 : Int32)) % (7 : Int32))), .unset] [(.int (3 : Int32)), (.int ((p2 &&& (2147483647 : Int32)) % (7 : Int32)))])) _
    refine XS.icmpYes X22.here hx rfl (pc0 := 88) (pc' := 95) rfl (hb hby at_88) rfl (feq hc88).2 (by decide) (by decide) ?_
    show Steps p.tables e below (T22.setTop (mkF m 95 #[.val (.int p1), .val (.int p2), .val (.ref b3), .val (.int ((p1 &&& (2147483647 : Int32)) % (6 : Int32))), .val (.int ((p2 &&& (2147483647 : Int32)) % (7 : Int32))), .unset] [])) _
    refine XS.iconst X22.here hx rfl (hb hby at_95) ?_
    show Steps p.tables e below (T22.setTop (mkF m 96 #[.val (.int p1), .val (.int p2), .val (.ref b3), .val (.int ((p1 &&& (2147483647 : Int32)) % (6 : Int32))), .val (.int ((p2 &&& (2147483647 : Int32)) % (7 : Int32))), .unset] [(.int (0 : Int32))])) _
    refine XS.istore X22.here hx rfl (hb hby at_96) rfl (l' := #[.val (.int p1), .val (.int p2), .val (.ref b3), .val (.int ((p1 &&& (2147483647 : Int32)) % (6 : Int32))), .val (.int ((p2 &&& (2147483647 : Int32)) % (7 : Int32))), .val (.int (0 : Int32))]) rfl ?_
    show Steps p.tables e below (T22.setTop (mkF m 98 #[.val (.int p1), .val (.int p2), .val (.ref b3), .val (.int ((p1 &&& (2147483647 : Int32)) % (6 : Int32))), .val (.int ((p2 &&& (2147483647 : Int32)) % (7 : Int32))), .val (.int (0 : Int32))] [])) _
    refine XS.aloadN X22.here hx rfl (hb hby at_98) rfl rfl ?_
    show Steps p.tables e below (T22.setTop (mkF m 99 #[.val (.int p1), .val (.int p2), .val (.ref b3), .val (.int ((p1 &&& (2147483647 : Int32)) % (6 : Int32))), .val (.int ((p2 &&& (2147483647 : Int32)) % (7 : Int32))), .val (.int (0 : Int32))] [(.ref b3)])) _
    refine XS.iloadN X22.here hx rfl (hb hby at_99) rfl ?_
    show Steps p.tables e below (T22.setTop (mkF m 100 #[.val (.int p1), .val (.int p2), .val (.ref b3), .val (.int ((p1 &&& (2147483647 : Int32)) % (6 : Int32))), .val (.int ((p2 &&& (2147483647 : Int32)) % (7 : Int32))), .val (.int (0 : Int32))] [(.int ((p1 &&& (2147483647 : Int32)) % (6 : Int32))), (.ref b3)])) _
    refine X22.aaload hx (j := ((p1 &&& (2147483647 : Int32)) % (6 : Int32))) (v := (.ref w23)) (by rw [e22]; exact Ar_b3_100.1) (State.isArrayOf_alike hZ.alike Ar_b3_100.2.1) rfl Ar_b3_100.2.2 hin100 hat100 (g := (mkF m 100 #[.val (.int p1), .val (.int p2), .val (.ref b3), .val (.int ((p1 &&& (2147483647 : Int32)) % (6 : Int32))), .val (.int ((p2 &&& (2147483647 : Int32)) % (7 : Int32))), .val (.int (0 : Int32))] [(.int ((p1 &&& (2147483647 : Int32)) % (6 : Int32))), (.ref b3)])) rfl rfl (hb hby at_100) _ ?_
    show Steps p.tables e below (T22.setTop (mkF m 101 #[.val (.int p1), .val (.int p2), .val (.ref b3), .val (.int ((p1 &&& (2147483647 : Int32)) % (6 : Int32))), .val (.int ((p2 &&& (2147483647 : Int32)) % (7 : Int32))), .val (.int (0 : Int32))] [(.ref w23)])) _
    refine XS.aloadN X22.here hx rfl (hb hby at_101) rfl rfl ?_
    show Steps p.tables e below (T22.setTop (mkF m 102 #[.val (.int p1), .val (.int p2), .val (.ref b3), .val (.int ((p1 &&& (2147483647 : Int32)) % (6 : Int32))), .val (.int ((p2 &&& (2147483647 : Int32)) % (7 : Int32))), .val (.int (0 : Int32))] [(.ref b3), (.ref w23)])) _
    refine XS.iload X22.here hx rfl (hb hby at_102) rfl ?_
    show Steps p.tables e below (T22.setTop (mkF m 104 #[.val (.int p1), .val (.int p2), .val (.ref b3), .val (.int ((p1 &&& (2147483647 : Int32)) % (6 : Int32))), .val (.int ((p2 &&& (2147483647 : Int32)) % (7 : Int32))), .val (.int (0 : Int32))] [(.int ((p2 &&& (2147483647 : Int32)) % (7 : Int32))), (.ref b3), (.ref w23)])) _
    refine X22.aaload hx (j := ((p2 &&& (2147483647 : Int32)) % (7 : Int32))) (v := (.ref w24)) (by rw [e22]; exact Ar_b3_104.1) (State.isArrayOf_alike hZ.alike Ar_b3_104.2.1) rfl Ar_b3_104.2.2 hin104 hat104 (g := (mkF m 104 #[.val (.int p1), .val (.int p2), .val (.ref b3), .val (.int ((p1 &&& (2147483647 : Int32)) % (6 : Int32))), .val (.int ((p2 &&& (2147483647 : Int32)) % (7 : Int32))), .val (.int (0 : Int32))] [(.int ((p2 &&& (2147483647 : Int32)) % (7 : Int32))), (.ref b3), (.ref w23)])) rfl rfl (hb hby at_104) _ ?_
    show Steps p.tables e below (T22.setTop (mkF m 105 #[.val (.int p1), .val (.int p2), .val (.ref b3), .val (.int ((p1 &&& (2147483647 : Int32)) % (6 : Int32))), .val (.int ((p2 &&& (2147483647 : Int32)) % (7 : Int32))), .val (.int (0 : Int32))] [(.ref w24), (.ref w23)])) _
    refine st25.trans ?_
    show Steps p.tables e below (T25.setTop (mkF m 108 #[.val (.int p1), .val (.int p2), .val (.ref b3), .val (.int ((p1 &&& (2147483647 : Int32)) % (6 : Int32))), .val (.int ((p2 &&& (2147483647 : Int32)) % (7 : Int32))), .val (.int (0 : Int32))] [(.int r25)])) _
    refine XS.iload X25.here hx rfl (hb hby at_108) rfl ?_
    show Steps p.tables e below (T25.setTop (mkF m 110 #[.val (.int p1), .val (.int p2), .val (.ref b3), .val (.int ((p1 &&& (2147483647 : Int32)) % (6 : Int32))), .val (.int ((p2 &&& (2147483647 : Int32)) % (7 : Int32))), .val (.int (0 : Int32))] [(.int (0 : Int32)), (.int r25)])) _
    refine XS.icmpNo X25.here hx rfl (hb hby at_110) rfl (teq hx1).2 ?_
    show Steps p.tables e below (T25.setTop (mkF m 113 #[.val (.int p1), .val (.int p2), .val (.ref b3), .val (.int ((p1 &&& (2147483647 : Int32)) % (6 : Int32))), .val (.int ((p2 &&& (2147483647 : Int32)) % (7 : Int32))), .val (.int (0 : Int32))] [])) _
    refine XS.iconst X25.here hx rfl (hb hby at_113) ?_
    show Steps p.tables e below (T25.setTop (mkF m 114 #[.val (.int p1), .val (.int p2), .val (.ref b3), .val (.int ((p1 &&& (2147483647 : Int32)) % (6 : Int32))), .val (.int ((p2 &&& (2147483647 : Int32)) % (7 : Int32))), .val (.int (0 : Int32))] [(.int (1 : Int32))])) _
    refine XS.goto X25.here hx rfl (pc0 := 114) (pc' := 118) rfl (hb hby at_114) (by decide) (by decide) ?_
    show Steps p.tables e below (T25.setTop (mkF m 118 #[.val (.int p1), .val (.int p2), .val (.ref b3), .val (.int ((p1 &&& (2147483647 : Int32)) % (6 : Int32))), .val (.int ((p2 &&& (2147483647 : Int32)) % (7 : Int32))), .val (.int (0 : Int32))] [(.int (1 : Int32))])) _
    exact retN X25 hx (t := .boolean) Bd.returns (by simp) (hb hby at_118) hr
  · show Q0_ftftf Z p1 p2 w4 w7 w10 w13 w16 w19 w23 w24 h0 n0 _ T25.heap _
    exact ⟨rfl, N25⟩
def Q0_n_fttf (Z : State) (p1 : Int32) (p2 : Int32) (w4 : Addr) (w7 : Addr) (w10 : Addr) (w13 : Addr) (w16 : Addr) (w19 : Addr) (w23 : Addr) (h0 : Heap) (n0 : Nat) (v : Option Value) (h : Heap) (L : List Loc) : Prop := v = some (.int (1 : Int32)) ∧ Fr n0 L
set_option maxRecDepth 65536 in
set_option maxHeartbeats 40000000 in
theorem rm0_n_fttf (l : Launch) (Z : State) (a0 : Array Value) (hw : ∀ d ∈ tables_1, d.before a0 Z = true) (ws : List Jvm.Cond) (p1 : Int32) (p2 : Int32) (w4 : Addr) (w7 : Addr) (w10 : Addr) (w13 : Addr) (w16 : Addr) (w19 : Addr) (w23 : Addr) (r25 : Int32) (h0 : Heap) (n0 : Nat) (Z0 : n0 ≤ h0.size) (S_BIGINT : Sta Z h0 "com/example/indexwright/indexwright/sql/ColumnType" "BIGINT" "Lcom/example/indexwright/indexwright/sql/ColumnType;" (.ref w4)) (S_DOUBLE : Sta Z h0 "com/example/indexwright/indexwright/sql/ColumnType" "DOUBLE" "Lcom/example/indexwright/indexwright/sql/ColumnType;" (.ref w7)) (S_VARCHAR : Sta Z h0 "com/example/indexwright/indexwright/sql/ColumnType" "VARCHAR" "Lcom/example/indexwright/indexwright/sql/ColumnType;" (.ref w10)) (S_BIGINT_ARRAY : Sta Z h0 "com/example/indexwright/indexwright/sql/ColumnType" "BIGINT_ARRAY" "Lcom/example/indexwright/indexwright/sql/ColumnType;" (.ref w13)) (S_DOUBLE_ARRAY : Sta Z h0 "com/example/indexwright/indexwright/sql/ColumnType" "DOUBLE_ARRAY" "Lcom/example/indexwright/indexwright/sql/ColumnType;" (.ref w16)) (S_VARCHAR_ARRAY : Sta Z h0 "com/example/indexwright/indexwright/sql/ColumnType" "VARCHAR_ARRAY" "Lcom/example/indexwright/indexwright/sql/ColumnType;" (.ref w19)) (E_w23 : Exa Z h0 w23 "com/example/indexwright/indexwright/sql/ColumnType") (hc67 : ¬ (((p2 &&& (2147483647 : Int32)) % (7 : Int32)) = ((p1 &&& (2147483647 : Int32)) % (6 : Int32)))) (hc72 : ¬ (((p1 &&& (2147483647 : Int32)) % (6 : Int32)) = (1 : Int32))) (hc82 : ¬ (((p1 &&& (2147483647 : Int32)) % (6 : Int32)) = (4 : Int32))) (E_w4 : Exa Z h0 w4 "com/example/indexwright/indexwright/sql/ColumnType") (E_w7 : Exa Z h0 w7 "com/example/indexwright/indexwright/sql/ColumnType") (E_w10 : Exa Z h0 w10 "com/example/indexwright/indexwright/sql/ColumnType") (E_w13 : Exa Z h0 w13 "com/example/indexwright/indexwright/sql/ColumnType") (E_w16 : Exa Z h0 w16 "com/example/indexwright/indexwright/sql/ColumnType") (E_w19 : Exa Z h0 w19 "com/example/indexwright/indexwright/sql/ColumnType") (hj100 : ¬ ((p1 &&& (2147483647 : Int32)) % (6 : Int32)) < 0 ∧ ((p1 &&& (2147483647 : Int32)) % (6 : Int32)) < (7 : Int32)) (hu100 : ([(.ref w4), (.ref w7), (.ref w10), (.ref w13), (.ref w16), (.ref w19), .null] : List Value).getD (((p1 &&& (2147483647 : Int32)) % (6 : Int32))).toNatClampNeg .null = (.ref w23)) (hj104 : ¬ ((p2 &&& (2147483647 : Int32)) % (7 : Int32)) < 0 ∧ ((p2 &&& (2147483647 : Int32)) % (7 : Int32)) < (7 : Int32)) (hu104 : ([(.ref w4), (.ref w7), (.ref w10), (.ref w13), (.ref w16), (.ref w19), .null] : List Value).getD (((p2 &&& (2147483647 : Int32)) % (7 : Int32))).toNatClampNeg .null = .null) (hP25 : P1n Z h0 w23 (some (.int r25))) (hx1 : r25 = (0 : Int32)) :
    MetFree l x (head1 (Jvm.Cond.code x code maxLocals ret :: ws) room_1) (fun a U => a = #[(.int p1), (.int p2)] ∧ Z.Warmed39 U.vm ∧ U.heap = h0) (fun _ _ _ _ _ => True) (fun _ U o U' => ∃ v L, o = .returned v ∧ Q0_n_fttf Z p1 p2 w4 w7 w10 w13 w16 w19 w23 h0 n0 v U'.heap L ∧ FrameEnd U o U' L room_1.cells room_1.slots) := by
  refine MetFree.of_bodySF (plainFor_of_name pn_0) hisR ?_
  intro p e s m args below meth c s₁ Bd hml0 hP hK
  obtain ⟨rfl, hZ, hh⟩ := hP
  have hx := Bd.exec
  have hby := Bd.bytes
  have hml : c.maxLocals = 6 := hml0
  have hown : s.vm.findClass "com/example/indexwright/indexwright/sql/ColumnTypeHoldsPinLaw" = some m.cls := findClass_of_methodNamed Bd.named
  have hnm := (name_of_methodNamed Bd.named Bd.method).1
  have X0 : Stand p l e room_1 s m #[(.int p1), (.int p2)] below meth c s₁ [] 0 0 := Stand.of_body Bd
  have e0 : s₁.heap = h0 := by rw [← hh, Bd.state]; rfl
  have N0 := Fr.nil n0
  have pre0 : ∀ t, Steps p.tables e below (s₁.setTop (mkF m 0 #[.val (.int p1), .val (.int p2), .unset, .unset, .unset, .unset] [])) t → Steps p.tables e below (s₁.setTop (entryFrame m #[(.int p1), (.int p2)] maxLocals)) t := fun t k => castTop (ef_0 m p1 p2) k
  -- 3. LAWS
  obtain ⟨T3, h3, k3, X3, e3, E3, A3, O3, st3⟩ := newR X0 hx hZ hown (hw _ (List.mem_of_getElem? (i := 0) rfl)) (hw _ (List.mem_of_getElem? (i := 1) rfl)) e0 (g := (mkF m 2 #[.val (.int p1), .val (.int p2), .unset, .unset, .unset, .unset] [(.int (7 : Int32))])) rfl (hb hby at_2) rfl (by decide) (cap := 7) (by decide) (by decide) (by decide) (by decide)
  obtain ⟨b3, g3⟩ : ∃ z, z = h0.size := ⟨_, rfl⟩      -- the fresh array's address
  rw [← g3] at A3 st3
  have V_b3 : Arv Z h3 b3 k3 (.object "com/example/indexwright/indexwright/sql/ColumnType") (7 : Int32) [.null, .null, .null, .null, .null, .null, .null] .null := (Arv.new A3 (by decide)).pad (pad_rep [] .null 7)
  have g_b3 : n0 ≤ b3 := Nat.le_trans Z0 (Nat.le_of_eq g3.symm)
  have sz_b3 : h0.size ≤ b3 := (Nat.le_trans (Keep.refl h0 []).1 (Nat.le_of_eq g3.symm))
  have K3 : Keep h0 h3 [] := (Keep.refl h0 []).ext E3
  obtain ⟨T5, X5, e5, st5⟩ := getS2 X3 hx hZ hown (host := "") (Or.inl (hw _ (List.mem_of_getElem? (i := 2) rfl))) Via.refl e3 (own_stak S_BIGINT K3) (g := (mkF m 7 #[.val (.int p1), .val (.int p2), .unset, .unset, .unset, .unset] [(.int (0 : Int32)), (.ref b3), (.ref b3)])) rfl (hb hby at_7)
  -- Sto10: the object may lie in that array: Sto.of Ar.. (an 'Ovr', by the sheet's words) (an 'Ins' of its class), Shelf42/RW6; carried by Sto.ext E.. | Sto.wr W..
  obtain ⟨cl_10, Ar_b3, q_b3, S_b3, N_b3, H_b3, G_b3⟩ := V_b3
  have hin10 := inb_of (j := (0 : Int32)) S_b3 ⟨by decide, by decide⟩
  have Sto10 := Sto.ofV Ar_b3 q_b3 O3 (Ins.self (E_w4.keep K3))
  obtain ⟨T6, h6, X6, e6, W6, st6⟩ := stR X5 hx hZ e5 Ar_b3 (j := (0 : Int32)) hin10 rfl Sto10 (g := (mkF m 10 #[.val (.int p1), .val (.int p2), .unset, .unset, .unset, .unset] [(.ref w4), (.int (0 : Int32)), (.ref b3), (.ref b3)])) rfl rfl (hb hby at_10)
  have V_b3_6 : Arv Z h6 b3 _ (.object "com/example/indexwright/indexwright/sql/ColumnType") (7 : Int32) [(.ref w4), .null, .null, .null, .null, .null, .null] .null := Arv.set Ar_b3 q_b3 S_b3 N_b3 H_b3 G_b3 rfl W6 0 rfl (Nat.le_of_ble_eq_true rfl)
  have N6 := Fr.snoc X6 N0 g_b3
  -- Ar_b3.same W6 : the array with (.ref w4) at the place (0 : Int32)
  have K6 : Keep h0 h6 [] := K3.wr W6 (Or.inr sz_b3)
  obtain ⟨T8, X8, e8, st8⟩ := getS2 X6 hx hZ hown (host := "") (Or.inl (hw _ (List.mem_of_getElem? (i := 6) rfl))) Via.refl e6 (own_stak S_DOUBLE K6) (g := (mkF m 13 #[.val (.int p1), .val (.int p2), .unset, .unset, .unset, .unset] [(.int (1 : Int32)), (.ref b3), (.ref b3)])) rfl (hb hby at_13)
  -- Sto16: the object may lie in that array: Sto.of Ar.. (an 'Ovr', by the sheet's words) (an 'Ins' of its class), Shelf42/RW6; carried by Sto.ext E.. | Sto.wr W..
  obtain ⟨cl_16, Ar_b3, q_b3, S_b3, N_b3, H_b3, G_b3⟩ := V_b3_6
  have hin16 := inb_of (j := (1 : Int32)) S_b3 ⟨by decide, by decide⟩
  have Sto16 := Sto.ofV Ar_b3 q_b3 O3 (Ins.self (E_w7.keep K6))
  obtain ⟨T9, h9, X9, e9, W9, st9⟩ := stR X8 hx hZ e8 Ar_b3 (j := (1 : Int32)) hin16 rfl Sto16 (g := (mkF m 16 #[.val (.int p1), .val (.int p2), .unset, .unset, .unset, .unset] [(.ref w7), (.int (1 : Int32)), (.ref b3), (.ref b3)])) rfl rfl (hb hby at_16)
  have V_b3_9 : Arv Z h9 b3 _ (.object "com/example/indexwright/indexwright/sql/ColumnType") (7 : Int32) [(.ref w4), (.ref w7), .null, .null, .null, .null, .null] .null := Arv.set Ar_b3 q_b3 S_b3 N_b3 H_b3 G_b3 rfl W9 1 rfl (Nat.le_of_ble_eq_true rfl)
  have N9 := Fr.snoc X9 N6 g_b3
  -- Ar_b3.same W9 : the array with (.ref w7) at the place (1 : Int32)
  have K9 : Keep h0 h9 [] := K6.wr W9 (Or.inr sz_b3)
  obtain ⟨T11, X11, e11, st11⟩ := getS2 X9 hx hZ hown (host := "") (Or.inl (hw _ (List.mem_of_getElem? (i := 8) rfl))) Via.refl e9 (own_stak S_VARCHAR K9) (g := (mkF m 19 #[.val (.int p1), .val (.int p2), .unset, .unset, .unset, .unset] [(.int (2 : Int32)), (.ref b3), (.ref b3)])) rfl (hb hby at_19)
  -- Sto22: the object may lie in that array: Sto.of Ar.. (an 'Ovr', by the sheet's words) (an 'Ins' of its class), Shelf42/RW6; carried by Sto.ext E.. | Sto.wr W..
  obtain ⟨cl_22, Ar_b3, q_b3, S_b3, N_b3, H_b3, G_b3⟩ := V_b3_9
  have hin22 := inb_of (j := (2 : Int32)) S_b3 ⟨by decide, by decide⟩
  have Sto22 := Sto.ofV Ar_b3 q_b3 O3 (Ins.self (E_w10.keep K9))
  obtain ⟨T12, h12, X12, e12, W12, st12⟩ := stR X11 hx hZ e11 Ar_b3 (j := (2 : Int32)) hin22 rfl Sto22 (g := (mkF m 22 #[.val (.int p1), .val (.int p2), .unset, .unset, .unset, .unset] [(.ref w10), (.int (2 : Int32)), (.ref b3), (.ref b3)])) rfl rfl (hb hby at_22)
  have V_b3_12 : Arv Z h12 b3 _ (.object "com/example/indexwright/indexwright/sql/ColumnType") (7 : Int32) [(.ref w4), (.ref w7), (.ref w10), .null, .null, .null, .null] .null := Arv.set Ar_b3 q_b3 S_b3 N_b3 H_b3 G_b3 rfl W12 2 rfl (Nat.le_of_ble_eq_true rfl)
  have N12 := Fr.snoc X12 N9 g_b3
  -- Ar_b3.same W12 : the array with (.ref w10) at the place (2 : Int32)
  have K12 : Keep h0 h12 [] := K9.wr W12 (Or.inr sz_b3)
  obtain ⟨T14, X14, e14, st14⟩ := getS2 X12 hx hZ hown (host := "") (Or.inl (hw _ (List.mem_of_getElem? (i := 10) rfl))) Via.refl e12 (own_stak S_BIGINT_ARRAY K12) (g := (mkF m 25 #[.val (.int p1), .val (.int p2), .unset, .unset, .unset, .unset] [(.int (3 : Int32)), (.ref b3), (.ref b3)])) rfl (hb hby at_25)
  -- Sto28: the object may lie in that array: Sto.of Ar.. (an 'Ovr', by the sheet's words) (an 'Ins' of its class), Shelf42/RW6; carried by Sto.ext E.. | Sto.wr W..
  obtain ⟨cl_28, Ar_b3, q_b3, S_b3, N_b3, H_b3, G_b3⟩ := V_b3_12
  have hin28 := inb_of (j := (3 : Int32)) S_b3 ⟨by decide, by decide⟩
  have Sto28 := Sto.ofV Ar_b3 q_b3 O3 (Ins.self (E_w13.keep K12))
  obtain ⟨T15, h15, X15, e15, W15, st15⟩ := stR X14 hx hZ e14 Ar_b3 (j := (3 : Int32)) hin28 rfl Sto28 (g := (mkF m 28 #[.val (.int p1), .val (.int p2), .unset, .unset, .unset, .unset] [(.ref w13), (.int (3 : Int32)), (.ref b3), (.ref b3)])) rfl rfl (hb hby at_28)
  have V_b3_15 : Arv Z h15 b3 _ (.object "com/example/indexwright/indexwright/sql/ColumnType") (7 : Int32) [(.ref w4), (.ref w7), (.ref w10), (.ref w13), .null, .null, .null] .null := Arv.set Ar_b3 q_b3 S_b3 N_b3 H_b3 G_b3 rfl W15 3 rfl (Nat.le_of_ble_eq_true rfl)
  have N15 := Fr.snoc X15 N12 g_b3
  -- Ar_b3.same W15 : the array with (.ref w13) at the place (3 : Int32)
  have K15 : Keep h0 h15 [] := K12.wr W15 (Or.inr sz_b3)
  obtain ⟨T17, X17, e17, st17⟩ := getS2 X15 hx hZ hown (host := "") (Or.inl (hw _ (List.mem_of_getElem? (i := 12) rfl))) Via.refl e15 (own_stak S_DOUBLE_ARRAY K15) (g := (mkF m 31 #[.val (.int p1), .val (.int p2), .unset, .unset, .unset, .unset] [(.int (4 : Int32)), (.ref b3), (.ref b3)])) rfl (hb hby at_31)
  -- Sto34: the object may lie in that array: Sto.of Ar.. (an 'Ovr', by the sheet's words) (an 'Ins' of its class), Shelf42/RW6; carried by Sto.ext E.. | Sto.wr W..
  obtain ⟨cl_34, Ar_b3, q_b3, S_b3, N_b3, H_b3, G_b3⟩ := V_b3_15
  have hin34 := inb_of (j := (4 : Int32)) S_b3 ⟨by decide, by decide⟩
  have Sto34 := Sto.ofV Ar_b3 q_b3 O3 (Ins.self (E_w16.keep K15))
  obtain ⟨T18, h18, X18, e18, W18, st18⟩ := stR X17 hx hZ e17 Ar_b3 (j := (4 : Int32)) hin34 rfl Sto34 (g := (mkF m 34 #[.val (.int p1), .val (.int p2), .unset, .unset, .unset, .unset] [(.ref w16), (.int (4 : Int32)), (.ref b3), (.ref b3)])) rfl rfl (hb hby at_34)
  have V_b3_18 : Arv Z h18 b3 _ (.object "com/example/indexwright/indexwright/sql/ColumnType") (7 : Int32) [(.ref w4), (.ref w7), (.ref w10), (.ref w13), (.ref w16), .null, .null] .null := Arv.set Ar_b3 q_b3 S_b3 N_b3 H_b3 G_b3 rfl W18 4 rfl (Nat.le_of_ble_eq_true rfl)
  have N18 := Fr.snoc X18 N15 g_b3
  -- Ar_b3.same W18 : the array with (.ref w16) at the place (4 : Int32)
  have K18 : Keep h0 h18 [] := K15.wr W18 (Or.inr sz_b3)
  obtain ⟨T20, X20, e20, st20⟩ := getS2 X18 hx hZ hown (host := "") (Or.inl (hw _ (List.mem_of_getElem? (i := 14) rfl))) Via.refl e18 (own_stak S_VARCHAR_ARRAY K18) (g := (mkF m 37 #[.val (.int p1), .val (.int p2), .unset, .unset, .unset, .unset] [(.int (5 : Int32)), (.ref b3), (.ref b3)])) rfl (hb hby at_37)
  -- Sto40: the object may lie in that array: Sto.of Ar.. (an 'Ovr', by the sheet's words) (an 'Ins' of its class), Shelf42/RW6; carried by Sto.ext E.. | Sto.wr W..
  obtain ⟨cl_40, Ar_b3, q_b3, S_b3, N_b3, H_b3, G_b3⟩ := V_b3_18
  have hin40 := inb_of (j := (5 : Int32)) S_b3 ⟨by decide, by decide⟩
  have Sto40 := Sto.ofV Ar_b3 q_b3 O3 (Ins.self (E_w19.keep K18))
  obtain ⟨T21, h21, X21, e21, W21, st21⟩ := stR X20 hx hZ e20 Ar_b3 (j := (5 : Int32)) hin40 rfl Sto40 (g := (mkF m 40 #[.val (.int p1), .val (.int p2), .unset, .unset, .unset, .unset] [(.ref w19), (.int (5 : Int32)), (.ref b3), (.ref b3)])) rfl rfl (hb hby at_40)
  have V_b3_21 : Arv Z h21 b3 _ (.object "com/example/indexwright/indexwright/sql/ColumnType") (7 : Int32) [(.ref w4), (.ref w7), (.ref w10), (.ref w13), (.ref w16), (.ref w19), .null] .null := Arv.set Ar_b3 q_b3 S_b3 N_b3 H_b3 G_b3 rfl W21 5 rfl (Nat.le_of_ble_eq_true rfl)
  have N21 := Fr.snoc X21 N18 g_b3
  -- Ar_b3.same W21 : the array with (.ref w19) at the place (5 : Int32)
  have K21 : Keep h0 h21 [] := K18.wr W21 (Or.inr sz_b3)
  obtain ⟨cl_45, Ar_b3, q_b3, S_b3, N_b3, H_b3, G_b3⟩ := V_b3_21
  have hin45 := inb_of (j := (6 : Int32)) S_b3 ⟨by decide, by decide⟩
  obtain ⟨T22, h22, X22, e22, W22, st22⟩ := stR X21 hx hZ e21 Ar_b3 (j := (6 : Int32)) hin45 rfl (Or.inl rfl) (g := (mkF m 45 #[.val (.int p1), .val (.int p2), .unset, .unset, .unset, .unset] [.null, (.int (6 : Int32)), (.ref b3), (.ref b3)])) rfl rfl (hb hby at_45)
  have V_b3_22 : Arv Z h22 b3 _ (.object "com/example/indexwright/indexwright/sql/ColumnType") (7 : Int32) [(.ref w4), (.ref w7), (.ref w10), (.ref w13), (.ref w16), (.ref w19), .null] .null := Arv.set Ar_b3 q_b3 S_b3 N_b3 H_b3 G_b3 rfl W22 6 rfl (Nat.le_of_ble_eq_true rfl)
  have N22 := Fr.snoc X22 N21 g_b3
  -- Ar_b3.same W22 : the array with .null at the place (6 : Int32)
  have K22 : Keep h0 h22 [] := K21.wr W22 (Or.inr sz_b3)
  obtain ⟨cl_100, Ar_b3_100, q_b3, S_b3, N_b3, H_b3, G_b3⟩ := V_b3_22
  have hin100 := inb_of S_b3 hj100
  have hat100 := H_b3.at hin100 hu100
  have V_b3_p100 : Arv Z h22 b3 _ (.object "com/example/indexwright/indexwright/sql/ColumnType") (7 : Int32) [(.ref w4), (.ref w7), (.ref w10), (.ref w13), (.ref w16), (.ref w19), .null] .null := ⟨cl_100, Ar_b3_100, q_b3, S_b3, N_b3, H_b3, G_b3⟩
  obtain ⟨cl_104, Ar_b3_104, q_b3, S_b3, N_b3, H_b3, G_b3⟩ := V_b3_p100
  have hin104 := inb_of S_b3 hj104
  have hat104 := H_b3.at hin104 hu104
  have V_b3_p104 : Arv Z h22 b3 _ (.object "com/example/indexwright/indexwright/sql/ColumnType") (7 : Int32) [(.ref w4), (.ref w7), (.ref w10), (.ref w13), (.ref w16), (.ref w19), .null] .null := ⟨cl_104, Ar_b3_104, q_b3, S_b3, N_b3, H_b3, G_b3⟩
  -- pc 105: com/example/indexwright/indexwright/sql/ColumnType.holds by the contract of the body that the receiver's class selects, rm1
  obtain ⟨cq25, kq25, q25a, q25b, q25c⟩ := isOf hZ e22 (E_w23.keep K22)
  obtain ⟨_, _, ⟨T25, L25, k25, n25⟩, -, X25, ⟨Lc25, hQ25, l25, y25, z25⟩, st25⟩ := X22.virtualBack hx (y := (⟨"com/example/indexwright/indexwright/sql/ColumnType", "holds", "(Lcom/example/indexwright/indexwright/sql/ColumnType;)Z"⟩ : MethodName)) (z := (⟨"com/example/indexwright/indexwright/sql/ColumnType", "holds", "(Lcom/example/indexwright/indexwright/sql/ColumnType;)Z"⟩ : MethodName)) hown (mvT hZ (hw _ (List.mem_of_getElem? (i := 17) rfl))) (mvT hZ (hw _ (List.mem_of_getElem? (i := 18) rfl))) (notFace_of_selects (args := #[]) (mvT hZ (hw _ (List.mem_of_getElem? (i := 20) rfl)))) (mvT hZ (hw _ (List.mem_of_getElem? (i := 20) rfl))) (mvT hZ (hw _ (List.mem_of_getElem? (i := 19) rfl))) (by decide) (backOf (W := 0) (own_1n l Z a0 hw [] w23 (some (.int r25)) h22 n0 (Nat.le_trans Z0 K22.1) (P1n_keep K22 hP25)) hZ (hw _ (List.mem_of_getElem? (i := 21) rfl)) (hw _ (List.mem_of_getElem? (i := 3) rfl)) (by decide) (by decide)) q25a q25c (g := (mkF m 105 #[.val (.int p1), .val (.int p2), .val (.ref b3), .val (.int ((p1 &&& (2147483647 : Int32)) % (6 : Int32))), .val (.int ((p2 &&& (2147483647 : Int32)) % (7 : Int32))), .val (.int (0 : Int32))] [.null, (.ref w23)])) rfl (by rw [hml]; rfl) (Steps.refl _) (argsL := [.null]) (rest := []) (lenOf pd_0_0 rfl) rfl (by show 2 * 0 + _ ≤ _; exact Nat.le_of_eq rfl) (hb hby at_105) (fun _ _ => ⟨rfl, e22, (by decide : 1 + 0 ≤ _), (by decide : 7 + 0 ≤ _)⟩)
  dsimp only [Pt.U, Pt.locs, Pt.cells, Pt.slots] at X25 l25 y25 z25 st25 hQ25
  subst l25 y25 z25
  obtain ⟨rfl, N25q, e25⟩ := hQ25      -- what it returned, that it wrote nothing old, and the rest of your Q1
  have N25 := Fr.app N22 N25q
  obtain ⟨fs, hr, hrun, hended, hW, hsame⟩ := X25.leave (v := some (.int (1 : Int32))) (fun h => by rw [Bd.returns] at h; cases h)
  refine ⟨_, _, pre0 _ ?_, hrun, hended, _, _, rfl, ?_, ⟨_, rfl⟩, hW, hsame.mono (by decide) (by decide)⟩
  -- 4. STEPS
  · show Steps p.tables e below (s₁.setTop (mkF m 0 #[.val (.int p1), .val (.int p2), .unset, .unset, .unset, .unset] [])) _
    refine XS.bipush X0.here hx rfl (hb hby at_0) ?_
    show Steps p.tables e below (s₁.setTop (mkF m 2 #[.val (.int p1), .val (.int p2), .unset, .unset, .unset, .unset] [(.int (7 : Int32))])) _
    refine st3 _ ?_
    show Steps p.tables e below (T3.setTop (mkF m 5 #[.val (.int p1), .val (.int p2), .unset, .unset, .unset, .unset] [(.ref b3)])) _
    refine XS.dup X3.here hx rfl (hb hby at_5) rfl rfl ?_
    show Steps p.tables e below (T3.setTop (mkF m 6 #[.val (.int p1), .val (.int p2), .unset, .unset, .unset, .unset] [(.ref b3), (.ref b3)])) _
    refine XS.iconst X3.here hx rfl (hb hby at_6) ?_
    show Steps p.tables e below (T3.setTop (mkF m 7 #[.val (.int p1), .val (.int p2), .unset, .unset, .unset, .unset] [(.int (0 : Int32)), (.ref b3), (.ref b3)])) _
    refine st5 _ ?_
    show Steps p.tables e below (T5.setTop (mkF m 10 #[.val (.int p1), .val (.int p2), .unset, .unset, .unset, .unset] [(.ref w4), (.int (0 : Int32)), (.ref b3), (.ref b3)])) _
    refine st6 _ ?_
    show Steps p.tables e below (T6.setTop (mkF m 11 #[.val (.int p1), .val (.int p2), .unset, .unset, .unset, .unset] [(.ref b3)])) _
    refine XS.dup X6.here hx rfl (hb hby at_11) rfl rfl ?_
    show Steps p.tables e below (T6.setTop (mkF m 12 #[.val (.int p1), .val (.int p2), .unset, .unset, .unset, .unset] [(.ref b3), (.ref b3)])) _
    refine XS.iconst X6.here hx rfl (hb hby at_12) ?_
    show Steps p.tables e below (T6.setTop (mkF m 13 #[.val (.int p1), .val (.int p2), .unset, .unset, .unset, .unset] [(.int (1 : Int32)), (.ref b3), (.ref b3)])) _
    refine st8 _ ?_
    show Steps p.tables e below (T8.setTop (mkF m 16 #[.val (.int p1), .val (.int p2), .unset, .unset, .unset, .unset] [(.ref w7), (.int (1 : Int32)), (.ref b3), (.ref b3)])) _
    refine st9 _ ?_
    show Steps p.tables e below (T9.setTop (mkF m 17 #[.val (.int p1), .val (.int p2), .unset, .unset, .unset, .unset] [(.ref b3)])) _
    refine XS.dup X9.here hx rfl (hb hby at_17) rfl rfl ?_
    show Steps p.tables e below (T9.setTop (mkF m 18 #[.val (.int p1), .val (.int p2), .unset, .unset, .unset, .unset] [(.ref b3), (.ref b3)])) _
    refine XS.iconst X9.here hx rfl (hb hby at_18) ?_
    show Steps p.tables e below (T9.setTop (mkF m 19 #[.val (.int p1), .val (.int p2), .unset, .unset, .unset, .unset] [(.int (2 : Int32)), (.ref b3), (.ref b3)])) _
    refine st11 _ ?_
    show Steps p.tables e below (T11.setTop (mkF m 22 #[.val (.int p1), .val (.int p2), .unset, .unset, .unset, .unset] [(.ref w10), (.int (2 : Int32)), (.ref b3), (.ref b3)])) _
    refine st12 _ ?_
    show Steps p.tables e below (T12.setTop (mkF m 23 #[.val (.int p1), .val (.int p2), .unset, .unset, .unset, .unset] [(.ref b3)])) _
    refine XS.dup X12.here hx rfl (hb hby at_23) rfl rfl ?_
    show Steps p.tables e below (T12.setTop (mkF m 24 #[.val (.int p1), .val (.int p2), .unset, .unset, .unset, .unset] [(.ref b3), (.ref b3)])) _
    refine XS.iconst X12.here hx rfl (hb hby at_24) ?_
    show Steps p.tables e below (T12.setTop (mkF m 25 #[.val (.int p1), .val (.int p2), .unset, .unset, .unset, .unset] [(.int (3 : Int32)), (.ref b3), (.ref b3)])) _
    refine st14 _ ?_
    show Steps p.tables e below (T14.setTop (mkF m 28 #[.val (.int p1), .val (.int p2), .unset, .unset, .unset, .unset] [(.ref w13), (.int (3 : Int32)), (.ref b3), (.ref b3)])) _
    refine st15 _ ?_
    show Steps p.tables e below (T15.setTop (mkF m 29 #[.val (.int p1), .val (.int p2), .unset, .unset, .unset, .unset] [(.ref b3)])) _
    refine XS.dup X15.here hx rfl (hb hby at_29) rfl rfl ?_
    show Steps p.tables e below (T15.setTop (mkF m 30 #[.val (.int p1), .val (.int p2), .unset, .unset, .unset, .unset] [(.ref b3), (.ref b3)])) _
    refine XS.iconst X15.here hx rfl (hb hby at_30) ?_
    show Steps p.tables e below (T15.setTop (mkF m 31 #[.val (.int p1), .val (.int p2), .unset, .unset, .unset, .unset] [(.int (4 : Int32)), (.ref b3), (.ref b3)])) _
    refine st17 _ ?_
    show Steps p.tables e below (T17.setTop (mkF m 34 #[.val (.int p1), .val (.int p2), .unset, .unset, .unset, .unset] [(.ref w16), (.int (4 : Int32)), (.ref b3), (.ref b3)])) _
    refine st18 _ ?_
    show Steps p.tables e below (T18.setTop (mkF m 35 #[.val (.int p1), .val (.int p2), .unset, .unset, .unset, .unset] [(.ref b3)])) _
    refine XS.dup X18.here hx rfl (hb hby at_35) rfl rfl ?_
    show Steps p.tables e below (T18.setTop (mkF m 36 #[.val (.int p1), .val (.int p2), .unset, .unset, .unset, .unset] [(.ref b3), (.ref b3)])) _
    refine XS.iconst X18.here hx rfl (hb hby at_36) ?_
    show Steps p.tables e below (T18.setTop (mkF m 37 #[.val (.int p1), .val (.int p2), .unset, .unset, .unset, .unset] [(.int (5 : Int32)), (.ref b3), (.ref b3)])) _
    refine st20 _ ?_
    show Steps p.tables e below (T20.setTop (mkF m 40 #[.val (.int p1), .val (.int p2), .unset, .unset, .unset, .unset] [(.ref w19), (.int (5 : Int32)), (.ref b3), (.ref b3)])) _
    refine st21 _ ?_
    show Steps p.tables e below (T21.setTop (mkF m 41 #[.val (.int p1), .val (.int p2), .unset, .unset, .unset, .unset] [(.ref b3)])) _
    refine XS.dup X21.here hx rfl (hb hby at_41) rfl rfl ?_
    show Steps p.tables e below (T21.setTop (mkF m 42 #[.val (.int p1), .val (.int p2), .unset, .unset, .unset, .unset] [(.ref b3), (.ref b3)])) _
    refine XS.bipush X21.here hx rfl (hb hby at_42) ?_
    show Steps p.tables e below (T21.setTop (mkF m 44 #[.val (.int p1), .val (.int p2), .unset, .unset, .unset, .unset] [(.int (6 : Int32)), (.ref b3), (.ref b3)])) _
    refine XS.aconstNull X21.here hx rfl (hb hby at_44) ?_
    show Steps p.tables e below (T21.setTop (mkF m 45 #[.val (.int p1), .val (.int p2), .unset, .unset, .unset, .unset] [.null, (.int (6 : Int32)), (.ref b3), (.ref b3)])) _
    refine st22 _ ?_
    show Steps p.tables e below (T22.setTop (mkF m 46 #[.val (.int p1), .val (.int p2), .unset, .unset, .unset, .unset] [(.ref b3)])) _
    refine XS.astoreN X22.here hx rfl (hb hby at_46) rfl rfl (l' := #[.val (.int p1), .val (.int p2), .val (.ref b3), .unset, .unset, .unset]) rfl ?_
    show Steps p.tables e below (T22.setTop (mkF m 47 #[.val (.int p1), .val (.int p2), .val (.ref b3), .unset, .unset, .unset] [])) _
    refine XS.iloadN X22.here hx rfl (hb hby at_47) rfl ?_
    show Steps p.tables e below (T22.setTop (mkF m 48 #[.val (.int p1), .val (.int p2), .val (.ref b3), .unset, .unset, .unset] [(.int p1)])) _
    refine X22.ldcInt hx hown (mvT hZ (hw _ (List.mem_of_getElem? (i := 16) rfl))) (g := (mkF m 48 #[.val (.int p1), .val (.int p2), .val (.ref b3), .unset, .unset, .unset] [(.int p1)])) rfl (hb hby at_48) _ ?_
    show Steps p.tables e below (T22.setTop (mkF m 50 #[.val (.int p1), .val (.int p2), .val (.ref b3), .unset, .unset, .unset] [(.int (2147483647 : Int32)), (.int p1)])) _
    refine XS.iand X22.here hx rfl (hb hby at_50) rfl ?_
    show Steps p.tables e below (T22.setTop (mkF m 51 #[.val (.int p1), .val (.int p2), .val (.ref b3), .unset, .unset, .unset] [(.int (p1 &&& (2147483647 : Int32)))])) _
    refine XS.bipush X22.here hx rfl (hb hby at_51) ?_
    show Steps p.tables e below (T22.setTop (mkF m 53 #[.val (.int p1), .val (.int p2), .val (.ref b3), .unset, .unset, .unset] [(.int (6 : Int32)), (.int (p1 &&& (2147483647 : Int32)))])) _
    refine Jvm.RoadKit.iremM X22 hx rfl (hb hby at_53) rfl (by decide) ?_
    show Steps p.tables e below (T22.setTop (mkF m 54 #[.val (.int p1), .val (.int p2), .val (.ref b3), .unset, .unset, .unset] [(.int ((p1 &&& (2147483647 : Int32)) % (6 : Int32)))])) _
    refine XS.istoreN X22.here hx rfl (hb hby at_54) rfl (l' := #[.val (.int p1), .val (.int p2), .val (.ref b3), .val (.int ((p1 &&& (2147483647 : Int32)) % (6 : Int32))), .unset, .unset]) rfl ?_
    show Steps p.tables e below (T22.setTop (mkF m 55 #[.val (.int p1), .val (.int p2), .val (.ref b3), .val (.int ((p1 &&& (2147483647 : Int32)) % (6 : Int32))), .unset, .unset] [])) _
    refine XS.iloadN X22.here hx rfl (hb hby at_55) rfl ?_
    show Steps p.tables e below (T22.setTop (mkF m 56 #[.val (.int p1), .val (.int p2), .val (.ref b3), .val (.int ((p1 &&& (2147483647 : Int32)) % (6 : Int32))), .unset, .unset] [(.int p2)])) _
    refine X22.ldcInt hx hown (mvT hZ (hw _ (List.mem_of_getElem? (i := 16) rfl))) (g := (mkF m 56 #[.val (.int p1), .val (.int p2), .val (.ref b3), .val (.int ((p1 &&& (2147483647 : Int32)) % (6 : Int32))), .unset, .unset] [(.int p2)])) rfl (hb hby at_56) _ ?_
    show Steps p.tables e below (T22.setTop (mkF m 58 #[.val (.int p1), .val (.int p2), .val (.ref b3), .val (.int ((p1 &&& (2147483647 : Int32)) % (6 : Int32))), .unset, .unset] [(.int (2147483647 : Int32)), (.int p2)])) _
    refine XS.iand X22.here hx rfl (hb hby at_58) rfl ?_
    show Steps p.tables e below (T22.setTop (mkF m 59 #[.val (.int p1), .val (.int p2), .val (.ref b3), .val (.int ((p1 &&& (2147483647 : Int32)) % (6 : Int32))), .unset, .unset] [(.int (p2 &&& (2147483647 : Int32)))])) _
    refine XS.bipush X22.here hx rfl (hb hby at_59) ?_
    show Steps p.tables e below (T22.setTop (mkF m 61 #[.val (.int p1), .val (.int p2), .val (.ref b3), .val (.int ((p1 &&& (2147483647 : Int32)) % (6 : Int32))), .unset, .unset] [(.int (7 : Int32)), (.int (p2 &&& (2147483647 : Int32)))])) _
    refine Jvm.RoadKit.iremM X22 hx rfl (hb hby at_61) rfl (by decide) ?_
    show Steps p.tables e below (T22.setTop (mkF m 62 #[.val (.int p1), .val (.int p2), .val (.ref b3), .val (.int ((p1 &&& (2147483647 : Int32)) % (6 : Int32))), .unset, .unset] [(.int ((p2 &&& (2147483647 : Int32)) % (7 : Int32)))])) _
    refine XS.istore X22.here hx rfl (hb hby at_62) rfl (l' := #[.val (.int p1), .val (.int p2), .val (.ref b3), .val (.int ((p1 &&& (2147483647 : Int32)) % (6 : Int32))), .val (.int ((p2 &&& (2147483647 : Int32)) % (7 : Int32))), .unset]) rfl ?_
    show Steps p.tables e below (T22.setTop (mkF m 64 #[.val (.int p1), .val (.int p2), .val (.ref b3), .val (.int ((p1 &&& (2147483647 : Int32)) % (6 : Int32))), .val (.int ((p2 &&& (2147483647 : Int32)) % (7 : Int32))), .unset] [])) _
    refine XS.iload X22.here hx rfl (hb hby at_64) rfl ?_
    show Steps p.tables e below (T22.setTop (mkF m 66 #[.val (.int p1), .val (.int p2), .val (.ref b3), .val (.int ((p1 &&& (2147483647 : Int32)) % (6 : Int32))), .val (.int ((p2 &&& (2147483647 : Int32)) % (7 : Int32))), .unset] [(.int ((p2 &&& (2147483647 : Int32)) % (7 : Int32)))])) _
    refine XS.iloadN X22.here hx rfl (hb hby at_66) rfl ?_
    show Steps p.tables e below (T22.setTop (mkF m 67 #[.val (.int p1), .val (.int p2), .val (.ref b3), .val (.int ((p1 &&& (2147483647 : Int32)) % (6 : Int32))), .val (.int ((p2 &&& (2147483647 : Int32)) % (7 : Int32))), .unset] [(.int ((p1 &&& (2147483647 : Int32)) % (6 : Int32))), (.int ((p2 &&& (2147483647 : Int32)) % (7 : Int32)))])) _
    refine XS.icmpNo X22.here hx rfl (hb hby at_67) rfl (feq hc67).1 ?_
    show Steps p.tables e below (T22.setTop (mkF m 70 #[.val (.int p1), .val (.int p2), .val (.ref b3), .val (.int ((p1 &&& (2147483647 : Int32)) % (6 : Int32))), .val (.int ((p2 &&& (2147483647 : Int32)) % (7 : Int32))), .unset] [])) _
    refine XS.iloadN X22.here hx rfl (hb hby at_70) rfl ?_
    show Steps p.tables e below (T22.setTop (mkF m 71 #[.val (.int p1), .val (.int p2), .val (.ref b3), .val (.int ((p1 &&& (2147483647 : Int32)) % (6 : Int32))), .val (.int ((p2 &&& (2147483647 : Int32)) % (7 : Int32))), .unset] [(.int ((p1 &&& (2147483647 : Int32)) % (6 : Int32)))])) _
    refine XS.iconst X22.here hx rfl (hb hby at_71) ?_
    show Steps p.tables e below (T22.setTop (mkF m 72 #[.val (.int p1), .val (.int p2), .val (.ref b3), .val (.int ((p1 &&& (2147483647 : Int32)) % (6 : Int32))), .val (.int ((p2 &&& (2147483647 : Int32)) % (7 : Int32))), .unset] [(.int (1 : Int32)), (.int ((p1 &&& (2147483647 : Int32)) % (6 : Int32)))])) _
    refine XS.icmpYes X22.here hx rfl (pc0 := 72) (pc' := 80) rfl (hb hby at_72) rfl (feq hc72).2 (by decide) (by decide) ?_
    show Steps p.tables e below (T22.setTop (mkF m 80 #[.val (.int p1), .val (.int p2), .val (.ref b3), .val (.int ((p1 &&& (2147483647 : Int32)) % (6 : Int32))), .val (.int ((p2 &&& (2147483647 : Int32)) % (7 : Int32))), .unset] [])) _
    refine XS.iloadN X22.here hx rfl (hb hby at_80) rfl ?_
    show Steps p.tables e below (T22.setTop (mkF m 81 #[.val (.int p1), .val (.int p2), .val (.ref b3), .val (.int ((p1 &&& (2147483647 : Int32)) % (6 : Int32))), .val (.int ((p2 &&& (2147483647 : Int32)) % (7 : Int32))), .unset] [(.int ((p1 &&& (2147483647 : Int32)) % (6 : Int32)))])) _
    refine XS.iconst X22.here hx rfl (hb hby at_81) ?_
    show Steps p.tables e below (T22.setTop (mkF m 82 #[.val (.int p1), .val (.int p2), .val (.ref b3), .val (.int ((p1 &&& (2147483647 : Int32)) % (6 : Int32))), .val (.int ((p2 &&& (2147483647 : Int32)) % (7 : Int32))), .unset] [(.int (4 : Int32)), (.int ((p1 &&& (2147483647 : Int32)) % (6 : Int32)))])) _
    refine XS.icmpYes X22.here hx rfl (pc0 := 82) (pc' := 95) rfl (hb hby at_82) rfl (feq hc82).2 (by decide) (by decide) ?_
    show Steps p.tables e below (T22.setTop (mkF m 95 #[.val (.int p1), .val (.int p2), .val (.ref b3), .val (.int ((p1 &&& (2147483647 : Int32)) % (6 : Int32))), .val (.int ((p2 &&& (2147483647 : Int32)) % (7 : Int32))), .unset] [])) _
    refine XS.iconst X22.here hx rfl (hb hby at_95) ?_
    show Steps p.tables e below (T22.setTop (mkF m 96 #[.val (.int p1), .val (.int p2), .val (.ref b3), .val (.int ((p1 &&& (2147483647 : Int32)) % (6 : Int32))), .val (.int ((p2 &&& (2147483647 : Int32)) % (7 : Int32))), .unset] [(.int (0 : Int32))])) _
    refine XS.istore X22.here hx rfl (hb hby at_96) rfl (l' := #[.val (.int p1), .val (.int p2), .val (.ref b3), .val (.int ((p1 &&& (2147483647 : Int32)) % (6 : Int32))), .val (.int ((p2 &&& (2147483647 : Int32)) % (7 : Int32))), .val (.int (0 : Int32))]) rfl ?_
    show Steps p.tables e below (T22.setTop (mkF m 98 #[.val (.int p1), .val (.int p2), .val (.ref b3), .val (.int ((p1 &&& (2147483647 : Int32)) % (6 : Int32))), .val (.int ((p2 &&& (2147483647 : Int32)) % (7 : Int32))), .val (.int (0 : Int32))] [])) _
    refine XS.aloadN X22.here hx rfl (hb hby at_98) rfl rfl ?_
    show Steps p.tables e below (T22.setTop (mkF m 99 #[.val (.int p1), .val (.int p2), .val (.ref b3), .val (.int ((p1 &&& (2147483647 : Int32)) % (6 : Int32))), .val (.int ((p2 &&& (2147483647 : Int32)) % (7 : Int32))), .val (.int (0 : Int32))] [(.ref b3)])) _
    refine XS.iloadN X22.here hx rfl (hb hby at_99) rfl ?_
    show Steps p.tables e below (T22.setTop (mkF m 100 #[.val (.int p1), .val (.int p2), .val (.ref b3), .val (.int ((p1 &&& (2147483647 : Int32)) % (6 : Int32))), .val (.int ((p2 &&& (2147483647 : Int32)) % (7 : Int32))), .val (.int (0 : Int32))] [(.int ((p1 &&& (2147483647 : Int32)) % (6 : Int32))), (.ref b3)])) _
    refine X22.aaload hx (j := ((p1 &&& (2147483647 : Int32)) % (6 : Int32))) (v := (.ref w23)) (by rw [e22]; exact Ar_b3_100.1) (State.isArrayOf_alike hZ.alike Ar_b3_100.2.1) rfl Ar_b3_100.2.2 hin100 hat100 (g := (mkF m 100 #[.val (.int p1), .val (.int p2), .val (.ref b3), .val (.int ((p1 &&& (2147483647 : Int32)) % (6 : Int32))), .val (.int ((p2 &&& (2147483647 : Int32)) % (7 : Int32))), .val (.int (0 : Int32))] [(.int ((p1 &&& (2147483647 : Int32)) % (6 : Int32))), (.ref b3)])) rfl rfl (hb hby at_100) _ ?_
    show Steps p.tables e below (T22.setTop (mkF m 101 #[.val (.int p1), .val (.int p2), .val (.ref b3), .val (.int ((p1 &&& (2147483647 : Int32)) % (6 : Int32))), .val (.int ((p2 &&& (2147483647 : Int32)) % (7 : Int32))), .val (.int (0 : Int32))] [(.ref w23)])) _
    refine XS.aloadN X22.here hx rfl (hb hby at_101) rfl rfl ?_
    show Steps p.tables e below (T22.setTop (mkF m 102 #[.val (.int p1), .val (.int p2), .val (.ref b3), .val (.int ((p1 &&& (2147483647 : Int32)) % (6 : Int32))), .val (.int ((p2 &&& (2147483647 : Int32)) % (7 : Int32))), .val (.int (0 : Int32))] [(.ref b3), (.ref w23)])) _
    refine XS.iload X22.here hx rfl (hb hby at_102) rfl ?_
    show Steps p.tables e below (T22.setTop (mkF m 104 #[.val (.int p1), .val (.int p2), .val (.ref b3), .val (.int ((p1 &&& (2147483647 : Int32)) % (6 : Int32))), .val (.int ((p2 &&& (2147483647 : Int32)) % (7 : Int32))), .val (.int (0 : Int32))] [(.int ((p2 &&& (2147483647 : Int32)) % (7 : Int32))), (.ref b3), (.ref w23)])) _
    refine X22.aaload hx (j := ((p2 &&& (2147483647 : Int32)) % (7 : Int32))) (v := .null) (by rw [e22]; exact Ar_b3_104.1) (State.isArrayOf_alike hZ.alike Ar_b3_104.2.1) rfl Ar_b3_104.2.2 hin104 hat104 (g := (mkF m 104 #[.val (.int p1), .val (.int p2), .val (.ref b3), .val (.int ((p1 &&& (2147483647 : Int32)) % (6 : Int32))), .val (.int ((p2 &&& (2147483647 : Int32)) % (7 : Int32))), .val (.int (0 : Int32))] [(.int ((p2 &&& (2147483647 : Int32)) % (7 : Int32))), (.ref b3), (.ref w23)])) rfl rfl (hb hby at_104) _ ?_
    show Steps p.tables e below (T22.setTop (mkF m 105 #[.val (.int p1), .val (.int p2), .val (.ref b3), .val (.int ((p1 &&& (2147483647 : Int32)) % (6 : Int32))), .val (.int ((p2 &&& (2147483647 : Int32)) % (7 : Int32))), .val (.int (0 : Int32))] [.null, (.ref w23)])) _
    refine st25.trans ?_
    show Steps p.tables e below (T25.setTop (mkF m 108 #[.val (.int p1), .val (.int p2), .val (.ref b3), .val (.int ((p1 &&& (2147483647 : Int32)) % (6 : Int32))), .val (.int ((p2 &&& (2147483647 : Int32)) % (7 : Int32))), .val (.int (0 : Int32))] [(.int r25)])) _
    refine XS.iload X25.here hx rfl (hb hby at_108) rfl ?_
    show Steps p.tables e below (T25.setTop (mkF m 110 #[.val (.int p1), .val (.int p2), .val (.ref b3), .val (.int ((p1 &&& (2147483647 : Int32)) % (6 : Int32))), .val (.int ((p2 &&& (2147483647 : Int32)) % (7 : Int32))), .val (.int (0 : Int32))] [(.int (0 : Int32)), (.int r25)])) _
    refine XS.icmpNo X25.here hx rfl (hb hby at_110) rfl (teq hx1).2 ?_
    show Steps p.tables e below (T25.setTop (mkF m 113 #[.val (.int p1), .val (.int p2), .val (.ref b3), .val (.int ((p1 &&& (2147483647 : Int32)) % (6 : Int32))), .val (.int ((p2 &&& (2147483647 : Int32)) % (7 : Int32))), .val (.int (0 : Int32))] [])) _
    refine XS.iconst X25.here hx rfl (hb hby at_113) ?_
    show Steps p.tables e below (T25.setTop (mkF m 114 #[.val (.int p1), .val (.int p2), .val (.ref b3), .val (.int ((p1 &&& (2147483647 : Int32)) % (6 : Int32))), .val (.int ((p2 &&& (2147483647 : Int32)) % (7 : Int32))), .val (.int (0 : Int32))] [(.int (1 : Int32))])) _
    refine XS.goto X25.here hx rfl (pc0 := 114) (pc' := 118) rfl (hb hby at_114) (by decide) (by decide) ?_
    show Steps p.tables e below (T25.setTop (mkF m 118 #[.val (.int p1), .val (.int p2), .val (.ref b3), .val (.int ((p1 &&& (2147483647 : Int32)) % (6 : Int32))), .val (.int ((p2 &&& (2147483647 : Int32)) % (7 : Int32))), .val (.int (0 : Int32))] [(.int (1 : Int32))])) _
    exact retN X25 hx (t := .boolean) Bd.returns (by simp) (hb hby at_118) hr
  · show Q0_n_fttf Z p1 p2 w4 w7 w10 w13 w16 w19 w23 h0 n0 _ T25.heap _
    exact ⟨rfl, N25⟩
def Q0_n_ffftf (Z : State) (p1 : Int32) (p2 : Int32) (w4 : Addr) (w7 : Addr) (w10 : Addr) (w13 : Addr) (w16 : Addr) (w19 : Addr) (w23 : Addr) (h0 : Heap) (n0 : Nat) (v : Option Value) (h : Heap) (L : List Loc) : Prop := v = some (.int (1 : Int32)) ∧ Fr n0 L
set_option maxRecDepth 65536 in
set_option maxHeartbeats 40000000 in
theorem rm0_n_ffftf (l : Launch) (Z : State) (a0 : Array Value) (hw : ∀ d ∈ tables_1, d.before a0 Z = true) (ws : List Jvm.Cond) (p1 : Int32) (p2 : Int32) (w4 : Addr) (w7 : Addr) (w10 : Addr) (w13 : Addr) (w16 : Addr) (w19 : Addr) (w23 : Addr) (r25 : Int32) (h0 : Heap) (n0 : Nat) (Z0 : n0 ≤ h0.size) (S_BIGINT : Sta Z h0 "com/example/indexwright/indexwright/sql/ColumnType" "BIGINT" "Lcom/example/indexwright/indexwright/sql/ColumnType;" (.ref w4)) (S_DOUBLE : Sta Z h0 "com/example/indexwright/indexwright/sql/ColumnType" "DOUBLE" "Lcom/example/indexwright/indexwright/sql/ColumnType;" (.ref w7)) (S_VARCHAR : Sta Z h0 "com/example/indexwright/indexwright/sql/ColumnType" "VARCHAR" "Lcom/example/indexwright/indexwright/sql/ColumnType;" (.ref w10)) (S_BIGINT_ARRAY : Sta Z h0 "com/example/indexwright/indexwright/sql/ColumnType" "BIGINT_ARRAY" "Lcom/example/indexwright/indexwright/sql/ColumnType;" (.ref w13)) (S_DOUBLE_ARRAY : Sta Z h0 "com/example/indexwright/indexwright/sql/ColumnType" "DOUBLE_ARRAY" "Lcom/example/indexwright/indexwright/sql/ColumnType;" (.ref w16)) (S_VARCHAR_ARRAY : Sta Z h0 "com/example/indexwright/indexwright/sql/ColumnType" "VARCHAR_ARRAY" "Lcom/example/indexwright/indexwright/sql/ColumnType;" (.ref w19)) (E_w23 : Exa Z h0 w23 "com/example/indexwright/indexwright/sql/ColumnType") (hc67 : ¬ (((p2 &&& (2147483647 : Int32)) % (7 : Int32)) = ((p1 &&& (2147483647 : Int32)) % (6 : Int32)))) (hc72 : ((p1 &&& (2147483647 : Int32)) % (6 : Int32)) = (1 : Int32)) (hc77 : ¬ (((p2 &&& (2147483647 : Int32)) % (7 : Int32)) = (0 : Int32))) (hc82 : ¬ (((p1 &&& (2147483647 : Int32)) % (6 : Int32)) = (4 : Int32))) (E_w4 : Exa Z h0 w4 "com/example/indexwright/indexwright/sql/ColumnType") (E_w7 : Exa Z h0 w7 "com/example/indexwright/indexwright/sql/ColumnType") (E_w10 : Exa Z h0 w10 "com/example/indexwright/indexwright/sql/ColumnType") (E_w13 : Exa Z h0 w13 "com/example/indexwright/indexwright/sql/ColumnType") (E_w16 : Exa Z h0 w16 "com/example/indexwright/indexwright/sql/ColumnType") (E_w19 : Exa Z h0 w19 "com/example/indexwright/indexwright/sql/ColumnType") (hj100 : ¬ ((p1 &&& (2147483647 : Int32)) % (6 : Int32)) < 0 ∧ ((p1 &&& (2147483647 : Int32)) % (6 : Int32)) < (7 : Int32)) (hu100 : ([(.ref w4), (.ref w7), (.ref w10), (.ref w13), (.ref w16), (.ref w19), .null] : List Value).getD (((p1 &&& (2147483647 : Int32)) % (6 : Int32))).toNatClampNeg .null = (.ref w23)) (hj104 : ¬ ((p2 &&& (2147483647 : Int32)) % (7 : Int32)) < 0 ∧ ((p2 &&& (2147483647 : Int32)) % (7 : Int32)) < (7 : Int32)) (hu104 : ([(.ref w4), (.ref w7), (.ref w10), (.ref w13), (.ref w16), (.ref w19), .null] : List Value).getD (((p2 &&& (2147483647 : Int32)) % (7 : Int32))).toNatClampNeg .null = .null) (hP25 : P1n Z h0 w23 (some (.int r25))) (hx1 : r25 = (0 : Int32)) :
    MetFree l x (head1 (Jvm.Cond.code x code maxLocals ret :: ws) room_1) (fun a U => a = #[(.int p1), (.int p2)] ∧ Z.Warmed39 U.vm ∧ U.heap = h0) (fun _ _ _ _ _ => True) (fun _ U o U' => ∃ v L, o = .returned v ∧ Q0_n_ffftf Z p1 p2 w4 w7 w10 w13 w16 w19 w23 h0 n0 v U'.heap L ∧ FrameEnd U o U' L room_1.cells room_1.slots) := by
  refine MetFree.of_bodySF (plainFor_of_name pn_0) hisR ?_
  intro p e s m args below meth c s₁ Bd hml0 hP hK
  obtain ⟨rfl, hZ, hh⟩ := hP
  have hx := Bd.exec
  have hby := Bd.bytes
  have hml : c.maxLocals = 6 := hml0
  have hown : s.vm.findClass "com/example/indexwright/indexwright/sql/ColumnTypeHoldsPinLaw" = some m.cls := findClass_of_methodNamed Bd.named
  have hnm := (name_of_methodNamed Bd.named Bd.method).1
  have X0 : Stand p l e room_1 s m #[(.int p1), (.int p2)] below meth c s₁ [] 0 0 := Stand.of_body Bd
  have e0 : s₁.heap = h0 := by rw [← hh, Bd.state]; rfl
  have N0 := Fr.nil n0
  have pre0 : ∀ t, Steps p.tables e below (s₁.setTop (mkF m 0 #[.val (.int p1), .val (.int p2), .unset, .unset, .unset, .unset] [])) t → Steps p.tables e below (s₁.setTop (entryFrame m #[(.int p1), (.int p2)] maxLocals)) t := fun t k => castTop (ef_0 m p1 p2) k
  -- 3. LAWS
  obtain ⟨T3, h3, k3, X3, e3, E3, A3, O3, st3⟩ := newR X0 hx hZ hown (hw _ (List.mem_of_getElem? (i := 0) rfl)) (hw _ (List.mem_of_getElem? (i := 1) rfl)) e0 (g := (mkF m 2 #[.val (.int p1), .val (.int p2), .unset, .unset, .unset, .unset] [(.int (7 : Int32))])) rfl (hb hby at_2) rfl (by decide) (cap := 7) (by decide) (by decide) (by decide) (by decide)
  obtain ⟨b3, g3⟩ : ∃ z, z = h0.size := ⟨_, rfl⟩      -- the fresh array's address
  rw [← g3] at A3 st3
  have V_b3 : Arv Z h3 b3 k3 (.object "com/example/indexwright/indexwright/sql/ColumnType") (7 : Int32) [.null, .null, .null, .null, .null, .null, .null] .null := (Arv.new A3 (by decide)).pad (pad_rep [] .null 7)
  have g_b3 : n0 ≤ b3 := Nat.le_trans Z0 (Nat.le_of_eq g3.symm)
  have sz_b3 : h0.size ≤ b3 := (Nat.le_trans (Keep.refl h0 []).1 (Nat.le_of_eq g3.symm))
  have K3 : Keep h0 h3 [] := (Keep.refl h0 []).ext E3
  obtain ⟨T5, X5, e5, st5⟩ := getS2 X3 hx hZ hown (host := "") (Or.inl (hw _ (List.mem_of_getElem? (i := 2) rfl))) Via.refl e3 (own_stak S_BIGINT K3) (g := (mkF m 7 #[.val (.int p1), .val (.int p2), .unset, .unset, .unset, .unset] [(.int (0 : Int32)), (.ref b3), (.ref b3)])) rfl (hb hby at_7)
  -- Sto10: the object may lie in that array: Sto.of Ar.. (an 'Ovr', by the sheet's words) (an 'Ins' of its class), Shelf42/RW6; carried by Sto.ext E.. | Sto.wr W..
  obtain ⟨cl_10, Ar_b3, q_b3, S_b3, N_b3, H_b3, G_b3⟩ := V_b3
  have hin10 := inb_of (j := (0 : Int32)) S_b3 ⟨by decide, by decide⟩
  have Sto10 := Sto.ofV Ar_b3 q_b3 O3 (Ins.self (E_w4.keep K3))
  obtain ⟨T6, h6, X6, e6, W6, st6⟩ := stR X5 hx hZ e5 Ar_b3 (j := (0 : Int32)) hin10 rfl Sto10 (g := (mkF m 10 #[.val (.int p1), .val (.int p2), .unset, .unset, .unset, .unset] [(.ref w4), (.int (0 : Int32)), (.ref b3), (.ref b3)])) rfl rfl (hb hby at_10)
  have V_b3_6 : Arv Z h6 b3 _ (.object "com/example/indexwright/indexwright/sql/ColumnType") (7 : Int32) [(.ref w4), .null, .null, .null, .null, .null, .null] .null := Arv.set Ar_b3 q_b3 S_b3 N_b3 H_b3 G_b3 rfl W6 0 rfl (Nat.le_of_ble_eq_true rfl)
  have N6 := Fr.snoc X6 N0 g_b3
  -- Ar_b3.same W6 : the array with (.ref w4) at the place (0 : Int32)
  have K6 : Keep h0 h6 [] := K3.wr W6 (Or.inr sz_b3)
  obtain ⟨T8, X8, e8, st8⟩ := getS2 X6 hx hZ hown (host := "") (Or.inl (hw _ (List.mem_of_getElem? (i := 6) rfl))) Via.refl e6 (own_stak S_DOUBLE K6) (g := (mkF m 13 #[.val (.int p1), .val (.int p2), .unset, .unset, .unset, .unset] [(.int (1 : Int32)), (.ref b3), (.ref b3)])) rfl (hb hby at_13)
  -- Sto16: the object may lie in that array: Sto.of Ar.. (an 'Ovr', by the sheet's words) (an 'Ins' of its class), Shelf42/RW6; carried by Sto.ext E.. | Sto.wr W..
  obtain ⟨cl_16, Ar_b3, q_b3, S_b3, N_b3, H_b3, G_b3⟩ := V_b3_6
  have hin16 := inb_of (j := (1 : Int32)) S_b3 ⟨by decide, by decide⟩
  have Sto16 := Sto.ofV Ar_b3 q_b3 O3 (Ins.self (E_w7.keep K6))
  obtain ⟨T9, h9, X9, e9, W9, st9⟩ := stR X8 hx hZ e8 Ar_b3 (j := (1 : Int32)) hin16 rfl Sto16 (g := (mkF m 16 #[.val (.int p1), .val (.int p2), .unset, .unset, .unset, .unset] [(.ref w7), (.int (1 : Int32)), (.ref b3), (.ref b3)])) rfl rfl (hb hby at_16)
  have V_b3_9 : Arv Z h9 b3 _ (.object "com/example/indexwright/indexwright/sql/ColumnType") (7 : Int32) [(.ref w4), (.ref w7), .null, .null, .null, .null, .null] .null := Arv.set Ar_b3 q_b3 S_b3 N_b3 H_b3 G_b3 rfl W9 1 rfl (Nat.le_of_ble_eq_true rfl)
  have N9 := Fr.snoc X9 N6 g_b3
  -- Ar_b3.same W9 : the array with (.ref w7) at the place (1 : Int32)
  have K9 : Keep h0 h9 [] := K6.wr W9 (Or.inr sz_b3)
  obtain ⟨T11, X11, e11, st11⟩ := getS2 X9 hx hZ hown (host := "") (Or.inl (hw _ (List.mem_of_getElem? (i := 8) rfl))) Via.refl e9 (own_stak S_VARCHAR K9) (g := (mkF m 19 #[.val (.int p1), .val (.int p2), .unset, .unset, .unset, .unset] [(.int (2 : Int32)), (.ref b3), (.ref b3)])) rfl (hb hby at_19)
  -- Sto22: the object may lie in that array: Sto.of Ar.. (an 'Ovr', by the sheet's words) (an 'Ins' of its class), Shelf42/RW6; carried by Sto.ext E.. | Sto.wr W..
  obtain ⟨cl_22, Ar_b3, q_b3, S_b3, N_b3, H_b3, G_b3⟩ := V_b3_9
  have hin22 := inb_of (j := (2 : Int32)) S_b3 ⟨by decide, by decide⟩
  have Sto22 := Sto.ofV Ar_b3 q_b3 O3 (Ins.self (E_w10.keep K9))
  obtain ⟨T12, h12, X12, e12, W12, st12⟩ := stR X11 hx hZ e11 Ar_b3 (j := (2 : Int32)) hin22 rfl Sto22 (g := (mkF m 22 #[.val (.int p1), .val (.int p2), .unset, .unset, .unset, .unset] [(.ref w10), (.int (2 : Int32)), (.ref b3), (.ref b3)])) rfl rfl (hb hby at_22)
  have V_b3_12 : Arv Z h12 b3 _ (.object "com/example/indexwright/indexwright/sql/ColumnType") (7 : Int32) [(.ref w4), (.ref w7), (.ref w10), .null, .null, .null, .null] .null := Arv.set Ar_b3 q_b3 S_b3 N_b3 H_b3 G_b3 rfl W12 2 rfl (Nat.le_of_ble_eq_true rfl)
  have N12 := Fr.snoc X12 N9 g_b3
  -- Ar_b3.same W12 : the array with (.ref w10) at the place (2 : Int32)
  have K12 : Keep h0 h12 [] := K9.wr W12 (Or.inr sz_b3)
  obtain ⟨T14, X14, e14, st14⟩ := getS2 X12 hx hZ hown (host := "") (Or.inl (hw _ (List.mem_of_getElem? (i := 10) rfl))) Via.refl e12 (own_stak S_BIGINT_ARRAY K12) (g := (mkF m 25 #[.val (.int p1), .val (.int p2), .unset, .unset, .unset, .unset] [(.int (3 : Int32)), (.ref b3), (.ref b3)])) rfl (hb hby at_25)
  -- Sto28: the object may lie in that array: Sto.of Ar.. (an 'Ovr', by the sheet's words) (an 'Ins' of its class), Shelf42/RW6; carried by Sto.ext E.. | Sto.wr W..
  obtain ⟨cl_28, Ar_b3, q_b3, S_b3, N_b3, H_b3, G_b3⟩ := V_b3_12
  have hin28 := inb_of (j := (3 : Int32)) S_b3 ⟨by decide, by decide⟩
  have Sto28 := Sto.ofV Ar_b3 q_b3 O3 (Ins.self (E_w13.keep K12))
  obtain ⟨T15, h15, X15, e15, W15, st15⟩ := stR X14 hx hZ e14 Ar_b3 (j := (3 : Int32)) hin28 rfl Sto28 (g := (mkF m 28 #[.val (.int p1), .val (.int p2), .unset, .unset, .unset, .unset] [(.ref w13), (.int (3 : Int32)), (.ref b3), (.ref b3)])) rfl rfl (hb hby at_28)
  have V_b3_15 : Arv Z h15 b3 _ (.object "com/example/indexwright/indexwright/sql/ColumnType") (7 : Int32) [(.ref w4), (.ref w7), (.ref w10), (.ref w13), .null, .null, .null] .null := Arv.set Ar_b3 q_b3 S_b3 N_b3 H_b3 G_b3 rfl W15 3 rfl (Nat.le_of_ble_eq_true rfl)
  have N15 := Fr.snoc X15 N12 g_b3
  -- Ar_b3.same W15 : the array with (.ref w13) at the place (3 : Int32)
  have K15 : Keep h0 h15 [] := K12.wr W15 (Or.inr sz_b3)
  obtain ⟨T17, X17, e17, st17⟩ := getS2 X15 hx hZ hown (host := "") (Or.inl (hw _ (List.mem_of_getElem? (i := 12) rfl))) Via.refl e15 (own_stak S_DOUBLE_ARRAY K15) (g := (mkF m 31 #[.val (.int p1), .val (.int p2), .unset, .unset, .unset, .unset] [(.int (4 : Int32)), (.ref b3), (.ref b3)])) rfl (hb hby at_31)
  -- Sto34: the object may lie in that array: Sto.of Ar.. (an 'Ovr', by the sheet's words) (an 'Ins' of its class), Shelf42/RW6; carried by Sto.ext E.. | Sto.wr W..
  obtain ⟨cl_34, Ar_b3, q_b3, S_b3, N_b3, H_b3, G_b3⟩ := V_b3_15
  have hin34 := inb_of (j := (4 : Int32)) S_b3 ⟨by decide, by decide⟩
  have Sto34 := Sto.ofV Ar_b3 q_b3 O3 (Ins.self (E_w16.keep K15))
  obtain ⟨T18, h18, X18, e18, W18, st18⟩ := stR X17 hx hZ e17 Ar_b3 (j := (4 : Int32)) hin34 rfl Sto34 (g := (mkF m 34 #[.val (.int p1), .val (.int p2), .unset, .unset, .unset, .unset] [(.ref w16), (.int (4 : Int32)), (.ref b3), (.ref b3)])) rfl rfl (hb hby at_34)
  have V_b3_18 : Arv Z h18 b3 _ (.object "com/example/indexwright/indexwright/sql/ColumnType") (7 : Int32) [(.ref w4), (.ref w7), (.ref w10), (.ref w13), (.ref w16), .null, .null] .null := Arv.set Ar_b3 q_b3 S_b3 N_b3 H_b3 G_b3 rfl W18 4 rfl (Nat.le_of_ble_eq_true rfl)
  have N18 := Fr.snoc X18 N15 g_b3
  -- Ar_b3.same W18 : the array with (.ref w16) at the place (4 : Int32)
  have K18 : Keep h0 h18 [] := K15.wr W18 (Or.inr sz_b3)
  obtain ⟨T20, X20, e20, st20⟩ := getS2 X18 hx hZ hown (host := "") (Or.inl (hw _ (List.mem_of_getElem? (i := 14) rfl))) Via.refl e18 (own_stak S_VARCHAR_ARRAY K18) (g := (mkF m 37 #[.val (.int p1), .val (.int p2), .unset, .unset, .unset, .unset] [(.int (5 : Int32)), (.ref b3), (.ref b3)])) rfl (hb hby at_37)
  -- Sto40: the object may lie in that array: Sto.of Ar.. (an 'Ovr', by the sheet's words) (an 'Ins' of its class), Shelf42/RW6; carried by Sto.ext E.. | Sto.wr W..
  obtain ⟨cl_40, Ar_b3, q_b3, S_b3, N_b3, H_b3, G_b3⟩ := V_b3_18
  have hin40 := inb_of (j := (5 : Int32)) S_b3 ⟨by decide, by decide⟩
  have Sto40 := Sto.ofV Ar_b3 q_b3 O3 (Ins.self (E_w19.keep K18))
  obtain ⟨T21, h21, X21, e21, W21, st21⟩ := stR X20 hx hZ e20 Ar_b3 (j := (5 : Int32)) hin40 rfl Sto40 (g := (mkF m 40 #[.val (.int p1), .val (.int p2), .unset, .unset, .unset, .unset] [(.ref w19), (.int (5 : Int32)), (.ref b3), (.ref b3)])) rfl rfl (hb hby at_40)
  have V_b3_21 : Arv Z h21 b3 _ (.object "com/example/indexwright/indexwright/sql/ColumnType") (7 : Int32) [(.ref w4), (.ref w7), (.ref w10), (.ref w13), (.ref w16), (.ref w19), .null] .null := Arv.set Ar_b3 q_b3 S_b3 N_b3 H_b3 G_b3 rfl W21 5 rfl (Nat.le_of_ble_eq_true rfl)
  have N21 := Fr.snoc X21 N18 g_b3
  -- Ar_b3.same W21 : the array with (.ref w19) at the place (5 : Int32)
  have K21 : Keep h0 h21 [] := K18.wr W21 (Or.inr sz_b3)
  obtain ⟨cl_45, Ar_b3, q_b3, S_b3, N_b3, H_b3, G_b3⟩ := V_b3_21
  have hin45 := inb_of (j := (6 : Int32)) S_b3 ⟨by decide, by decide⟩
  obtain ⟨T22, h22, X22, e22, W22, st22⟩ := stR X21 hx hZ e21 Ar_b3 (j := (6 : Int32)) hin45 rfl (Or.inl rfl) (g := (mkF m 45 #[.val (.int p1), .val (.int p2), .unset, .unset, .unset, .unset] [.null, (.int (6 : Int32)), (.ref b3), (.ref b3)])) rfl rfl (hb hby at_45)
  have V_b3_22 : Arv Z h22 b3 _ (.object "com/example/indexwright/indexwright/sql/ColumnType") (7 : Int32) [(.ref w4), (.ref w7), (.ref w10), (.ref w13), (.ref w16), (.ref w19), .null] .null := Arv.set Ar_b3 q_b3 S_b3 N_b3 H_b3 G_b3 rfl W22 6 rfl (Nat.le_of_ble_eq_true rfl)
  have N22 := Fr.snoc X22 N21 g_b3
  -- Ar_b3.same W22 : the array with .null at the place (6 : Int32)
  have K22 : Keep h0 h22 [] := K21.wr W22 (Or.inr sz_b3)
  obtain ⟨cl_100, Ar_b3_100, q_b3, S_b3, N_b3, H_b3, G_b3⟩ := V_b3_22
  have hin100 := inb_of S_b3 hj100
  have hat100 := H_b3.at hin100 hu100
  have V_b3_p100 : Arv Z h22 b3 _ (.object "com/example/indexwright/indexwright/sql/ColumnType") (7 : Int32) [(.ref w4), (.ref w7), (.ref w10), (.ref w13), (.ref w16), (.ref w19), .null] .null := ⟨cl_100, Ar_b3_100, q_b3, S_b3, N_b3, H_b3, G_b3⟩
  obtain ⟨cl_104, Ar_b3_104, q_b3, S_b3, N_b3, H_b3, G_b3⟩ := V_b3_p100
  have hin104 := inb_of S_b3 hj104
  have hat104 := H_b3.at hin104 hu104
  have V_b3_p104 : Arv Z h22 b3 _ (.object "com/example/indexwright/indexwright/sql/ColumnType") (7 : Int32) [(.ref w4), (.ref w7), (.ref w10), (.ref w13), (.ref w16), (.ref w19), .null] .null := ⟨cl_104, Ar_b3_104, q_b3, S_b3, N_b3, H_b3, G_b3⟩
  -- pc 105: com/example/indexwright/indexwright/sql/ColumnType.holds by the contract of the body that the receiver's class selects, rm1
  obtain ⟨cq25, kq25, q25a, q25b, q25c⟩ := isOf hZ e22 (E_w23.keep K22)
  obtain ⟨_, _, ⟨T25, L25, k25, n25⟩, -, X25, ⟨Lc25, hQ25, l25, y25, z25⟩, st25⟩ := X22.virtualBack hx (y := (⟨"com/example/indexwright/indexwright/sql/ColumnType", "holds", "(Lcom/example/indexwright/indexwright/sql/ColumnType;)Z"⟩ : MethodName)) (z := (⟨"com/example/indexwright/indexwright/sql/ColumnType", "holds", "(Lcom/example/indexwright/indexwright/sql/ColumnType;)Z"⟩ : MethodName)) hown (mvT hZ (hw _ (List.mem_of_getElem? (i := 17) rfl))) (mvT hZ (hw _ (List.mem_of_getElem? (i := 18) rfl))) (notFace_of_selects (args := #[]) (mvT hZ (hw _ (List.mem_of_getElem? (i := 20) rfl)))) (mvT hZ (hw _ (List.mem_of_getElem? (i := 20) rfl))) (mvT hZ (hw _ (List.mem_of_getElem? (i := 19) rfl))) (by decide) (backOf (W := 0) (own_1n l Z a0 hw [] w23 (some (.int r25)) h22 n0 (Nat.le_trans Z0 K22.1) (P1n_keep K22 hP25)) hZ (hw _ (List.mem_of_getElem? (i := 21) rfl)) (hw _ (List.mem_of_getElem? (i := 3) rfl)) (by decide) (by decide)) q25a q25c (g := (mkF m 105 #[.val (.int p1), .val (.int p2), .val (.ref b3), .val (.int ((p1 &&& (2147483647 : Int32)) % (6 : Int32))), .val (.int ((p2 &&& (2147483647 : Int32)) % (7 : Int32))), .val (.int (0 : Int32))] [.null, (.ref w23)])) rfl (by rw [hml]; rfl) (Steps.refl _) (argsL := [.null]) (rest := []) (lenOf pd_0_0 rfl) rfl (by show 2 * 0 + _ ≤ _; exact Nat.le_of_eq rfl) (hb hby at_105) (fun _ _ => ⟨rfl, e22, (by decide : 1 + 0 ≤ _), (by decide : 7 + 0 ≤ _)⟩)
  dsimp only [Pt.U, Pt.locs, Pt.cells, Pt.slots] at X25 l25 y25 z25 st25 hQ25
  subst l25 y25 z25
  obtain ⟨rfl, N25q, e25⟩ := hQ25      -- what it returned, that it wrote nothing old, and the rest of your Q1
  have N25 := Fr.app N22 N25q
  obtain ⟨fs, hr, hrun, hended, hW, hsame⟩ := X25.leave (v := some (.int (1 : Int32))) (fun h => by rw [Bd.returns] at h; cases h)
  refine ⟨_, _, pre0 _ ?_, hrun, hended, _, _, rfl, ?_, ⟨_, rfl⟩, hW, hsame.mono (by decide) (by decide)⟩
  -- 4. STEPS
  · show Steps p.tables e below (s₁.setTop (mkF m 0 #[.val (.int p1), .val (.int p2), .unset, .unset, .unset, .unset] [])) _
    refine XS.bipush X0.here hx rfl (hb hby at_0) ?_
    show Steps p.tables e below (s₁.setTop (mkF m 2 #[.val (.int p1), .val (.int p2), .unset, .unset, .unset, .unset] [(.int (7 : Int32))])) _
    refine st3 _ ?_
    show Steps p.tables e below (T3.setTop (mkF m 5 #[.val (.int p1), .val (.int p2), .unset, .unset, .unset, .unset] [(.ref b3)])) _
    refine XS.dup X3.here hx rfl (hb hby at_5) rfl rfl ?_
    show Steps p.tables e below (T3.setTop (mkF m 6 #[.val (.int p1), .val (.int p2), .unset, .unset, .unset, .unset] [(.ref b3), (.ref b3)])) _
    refine XS.iconst X3.here hx rfl (hb hby at_6) ?_
    show Steps p.tables e below (T3.setTop (mkF m 7 #[.val (.int p1), .val (.int p2), .unset, .unset, .unset, .unset] [(.int (0 : Int32)), (.ref b3), (.ref b3)])) _
    refine st5 _ ?_
    show Steps p.tables e below (T5.setTop (mkF m 10 #[.val (.int p1), .val (.int p2), .unset, .unset, .unset, .unset] [(.ref w4), (.int (0 : Int32)), (.ref b3), (.ref b3)])) _
    refine st6 _ ?_
    show Steps p.tables e below (T6.setTop (mkF m 11 #[.val (.int p1), .val (.int p2), .unset, .unset, .unset, .unset] [(.ref b3)])) _
    refine XS.dup X6.here hx rfl (hb hby at_11) rfl rfl ?_
    show Steps p.tables e below (T6.setTop (mkF m 12 #[.val (.int p1), .val (.int p2), .unset, .unset, .unset, .unset] [(.ref b3), (.ref b3)])) _
    refine XS.iconst X6.here hx rfl (hb hby at_12) ?_
    show Steps p.tables e below (T6.setTop (mkF m 13 #[.val (.int p1), .val (.int p2), .unset, .unset, .unset, .unset] [(.int (1 : Int32)), (.ref b3), (.ref b3)])) _
    refine st8 _ ?_
    show Steps p.tables e below (T8.setTop (mkF m 16 #[.val (.int p1), .val (.int p2), .unset, .unset, .unset, .unset] [(.ref w7), (.int (1 : Int32)), (.ref b3), (.ref b3)])) _
    refine st9 _ ?_
    show Steps p.tables e below (T9.setTop (mkF m 17 #[.val (.int p1), .val (.int p2), .unset, .unset, .unset, .unset] [(.ref b3)])) _
    refine XS.dup X9.here hx rfl (hb hby at_17) rfl rfl ?_
    show Steps p.tables e below (T9.setTop (mkF m 18 #[.val (.int p1), .val (.int p2), .unset, .unset, .unset, .unset] [(.ref b3), (.ref b3)])) _
    refine XS.iconst X9.here hx rfl (hb hby at_18) ?_
    show Steps p.tables e below (T9.setTop (mkF m 19 #[.val (.int p1), .val (.int p2), .unset, .unset, .unset, .unset] [(.int (2 : Int32)), (.ref b3), (.ref b3)])) _
    refine st11 _ ?_
    show Steps p.tables e below (T11.setTop (mkF m 22 #[.val (.int p1), .val (.int p2), .unset, .unset, .unset, .unset] [(.ref w10), (.int (2 : Int32)), (.ref b3), (.ref b3)])) _
    refine st12 _ ?_
    show Steps p.tables e below (T12.setTop (mkF m 23 #[.val (.int p1), .val (.int p2), .unset, .unset, .unset, .unset] [(.ref b3)])) _
    refine XS.dup X12.here hx rfl (hb hby at_23) rfl rfl ?_
    show Steps p.tables e below (T12.setTop (mkF m 24 #[.val (.int p1), .val (.int p2), .unset, .unset, .unset, .unset] [(.ref b3), (.ref b3)])) _
    refine XS.iconst X12.here hx rfl (hb hby at_24) ?_
    show Steps p.tables e below (T12.setTop (mkF m 25 #[.val (.int p1), .val (.int p2), .unset, .unset, .unset, .unset] [(.int (3 : Int32)), (.ref b3), (.ref b3)])) _
    refine st14 _ ?_
    show Steps p.tables e below (T14.setTop (mkF m 28 #[.val (.int p1), .val (.int p2), .unset, .unset, .unset, .unset] [(.ref w13), (.int (3 : Int32)), (.ref b3), (.ref b3)])) _
    refine st15 _ ?_
    show Steps p.tables e below (T15.setTop (mkF m 29 #[.val (.int p1), .val (.int p2), .unset, .unset, .unset, .unset] [(.ref b3)])) _
    refine XS.dup X15.here hx rfl (hb hby at_29) rfl rfl ?_
    show Steps p.tables e below (T15.setTop (mkF m 30 #[.val (.int p1), .val (.int p2), .unset, .unset, .unset, .unset] [(.ref b3), (.ref b3)])) _
    refine XS.iconst X15.here hx rfl (hb hby at_30) ?_
    show Steps p.tables e below (T15.setTop (mkF m 31 #[.val (.int p1), .val (.int p2), .unset, .unset, .unset, .unset] [(.int (4 : Int32)), (.ref b3), (.ref b3)])) _
    refine st17 _ ?_
    show Steps p.tables e below (T17.setTop (mkF m 34 #[.val (.int p1), .val (.int p2), .unset, .unset, .unset, .unset] [(.ref w16), (.int (4 : Int32)), (.ref b3), (.ref b3)])) _
    refine st18 _ ?_
    show Steps p.tables e below (T18.setTop (mkF m 35 #[.val (.int p1), .val (.int p2), .unset, .unset, .unset, .unset] [(.ref b3)])) _
    refine XS.dup X18.here hx rfl (hb hby at_35) rfl rfl ?_
    show Steps p.tables e below (T18.setTop (mkF m 36 #[.val (.int p1), .val (.int p2), .unset, .unset, .unset, .unset] [(.ref b3), (.ref b3)])) _
    refine XS.iconst X18.here hx rfl (hb hby at_36) ?_
    show Steps p.tables e below (T18.setTop (mkF m 37 #[.val (.int p1), .val (.int p2), .unset, .unset, .unset, .unset] [(.int (5 : Int32)), (.ref b3), (.ref b3)])) _
    refine st20 _ ?_
    show Steps p.tables e below (T20.setTop (mkF m 40 #[.val (.int p1), .val (.int p2), .unset, .unset, .unset, .unset] [(.ref w19), (.int (5 : Int32)), (.ref b3), (.ref b3)])) _
    refine st21 _ ?_
    show Steps p.tables e below (T21.setTop (mkF m 41 #[.val (.int p1), .val (.int p2), .unset, .unset, .unset, .unset] [(.ref b3)])) _
    refine XS.dup X21.here hx rfl (hb hby at_41) rfl rfl ?_
    show Steps p.tables e below (T21.setTop (mkF m 42 #[.val (.int p1), .val (.int p2), .unset, .unset, .unset, .unset] [(.ref b3), (.ref b3)])) _
    refine XS.bipush X21.here hx rfl (hb hby at_42) ?_
    show Steps p.tables e below (T21.setTop (mkF m 44 #[.val (.int p1), .val (.int p2), .unset, .unset, .unset, .unset] [(.int (6 : Int32)), (.ref b3), (.ref b3)])) _
    refine XS.aconstNull X21.here hx rfl (hb hby at_44) ?_
    show Steps p.tables e below (T21.setTop (mkF m 45 #[.val (.int p1), .val (.int p2), .unset, .unset, .unset, .unset] [.null, (.int (6 : Int32)), (.ref b3), (.ref b3)])) _
    refine st22 _ ?_
    show Steps p.tables e below (T22.setTop (mkF m 46 #[.val (.int p1), .val (.int p2), .unset, .unset, .unset, .unset] [(.ref b3)])) _
    refine XS.astoreN X22.here hx rfl (hb hby at_46) rfl rfl (l' := #[.val (.int p1), .val (.int p2), .val (.ref b3), .unset, .unset, .unset]) rfl ?_
    show Steps p.tables e below (T22.setTop (mkF m 47 #[.val (.int p1), .val (.int p2), .val (.ref b3), .unset, .unset, .unset] [])) _
    refine XS.iloadN X22.here hx rfl (hb hby at_47) rfl ?_
    show Steps p.tables e below (T22.setTop (mkF m 48 #[.val (.int p1), .val (.int p2), .val (.ref b3), .unset, .unset, .unset] [(.int p1)])) _
    refine X22.ldcInt hx hown (mvT hZ (hw _ (List.mem_of_getElem? (i := 16) rfl))) (g := (mkF m 48 #[.val (.int p1), .val (.int p2), .val (.ref b3), .unset, .unset, .unset] [(.int p1)])) rfl (hb hby at_48) _ ?_
    show Steps p.tables e below (T22.setTop (mkF m 50 #[.val (.int p1), .val (.int p2), .val (.ref b3), .unset, .unset, .unset] [(.int (2147483647 : Int32)), (.int p1)])) _
    refine XS.iand X22.here hx rfl (hb hby at_50) rfl ?_
    show Steps p.tables e below (T22.setTop (mkF m 51 #[.val (.int p1), .val (.int p2), .val (.ref b3), .unset, .unset, .unset] [(.int (p1 &&& (2147483647 : Int32)))])) _
    refine XS.bipush X22.here hx rfl (hb hby at_51) ?_
    show Steps p.tables e below (T22.setTop (mkF m 53 #[.val (.int p1), .val (.int p2), .val (.ref b3), .unset, .unset, .unset] [(.int (6 : Int32)), (.int (p1 &&& (2147483647 : Int32)))])) _
    refine Jvm.RoadKit.iremM X22 hx rfl (hb hby at_53) rfl (by decide) ?_
    show Steps p.tables e below (T22.setTop (mkF m 54 #[.val (.int p1), .val (.int p2), .val (.ref b3), .unset, .unset, .unset] [(.int ((p1 &&& (2147483647 : Int32)) % (6 : Int32)))])) _
    refine XS.istoreN X22.here hx rfl (hb hby at_54) rfl (l' := #[.val (.int p1), .val (.int p2), .val (.ref b3), .val (.int ((p1 &&& (2147483647 : Int32)) % (6 : Int32))), .unset, .unset]) rfl ?_
    show Steps p.tables e below (T22.setTop (mkF m 55 #[.val (.int p1), .val (.int p2), .val (.ref b3), .val (.int ((p1 &&& (2147483647 : Int32)) % (6 : Int32))), .unset, .unset] [])) _
    refine XS.iloadN X22.here hx rfl (hb hby at_55) rfl ?_
    show Steps p.tables e below (T22.setTop (mkF m 56 #[.val (.int p1), .val (.int p2), .val (.ref b3), .val (.int ((p1 &&& (2147483647 : Int32)) % (6 : Int32))), .unset, .unset] [(.int p2)])) _
    refine X22.ldcInt hx hown (mvT hZ (hw _ (List.mem_of_getElem? (i := 16) rfl))) (g := (mkF m 56 #[.val (.int p1), .val (.int p2), .val (.ref b3), .val (.int ((p1 &&& (2147483647 : Int32)) % (6 : Int32))), .unset, .unset] [(.int p2)])) rfl (hb hby at_56) _ ?_
    show Steps p.tables e below (T22.setTop (mkF m 58 #[.val (.int p1), .val (.int p2), .val (.ref b3), .val (.int ((p1 &&& (2147483647 : Int32)) % (6 : Int32))), .unset, .unset] [(.int (2147483647 : Int32)), (.int p2)])) _
    refine XS.iand X22.here hx rfl (hb hby at_58) rfl ?_
    show Steps p.tables e below (T22.setTop (mkF m 59 #[.val (.int p1), .val (.int p2), .val (.ref b3), .val (.int ((p1 &&& (2147483647 : Int32)) % (6 : Int32))), .unset, .unset] [(.int (p2 &&& (2147483647 : Int32)))])) _
    refine XS.bipush X22.here hx rfl (hb hby at_59) ?_
    show Steps p.tables e below (T22.setTop (mkF m 61 #[.val (.int p1), .val (.int p2), .val (.ref b3), .val (.int ((p1 &&& (2147483647 : Int32)) % (6 : Int32))), .unset, .unset] [(.int (7 : Int32)), (.int (p2 &&& (2147483647 : Int32)))])) _
    refine Jvm.RoadKit.iremM X22 hx rfl (hb hby at_61) rfl (by decide) ?_
    show Steps p.tables e below (T22.setTop (mkF m 62 #[.val (.int p1), .val (.int p2), .val (.ref b3), .val (.int ((p1 &&& (2147483647 : Int32)) % (6 : Int32))), .unset, .unset] [(.int ((p2 &&& (2147483647 : Int32)) % (7 : Int32)))])) _
    refine XS.istore X22.here hx rfl (hb hby at_62) rfl (l' := #[.val (.int p1), .val (.int p2), .val (.ref b3), .val (.int ((p1 &&& (2147483647 : Int32)) % (6 : Int32))), .val (.int ((p2 &&& (2147483647 : Int32)) % (7 : Int32))), .unset]) rfl ?_
    show Steps p.tables e below (T22.setTop (mkF m 64 #[.val (.int p1), .val (.int p2), .val (.ref b3), .val (.int ((p1 &&& (2147483647 : Int32)) % (6 : Int32))), .val (.int ((p2 &&& (2147483647 : Int32)) % (7 : Int32))), .unset] [])) _
    refine XS.iload X22.here hx rfl (hb hby at_64) rfl ?_
    show Steps p.tables e below (T22.setTop (mkF m 66 #[.val (.int p1), .val (.int p2), .val (.ref b3), .val (.int ((p1 &&& (2147483647 : Int32)) % (6 : Int32))), .val (.int ((p2 &&& (2147483647 : Int32)) % (7 : Int32))), .unset] [(.int ((p2 &&& (2147483647 : Int32)) % (7 : Int32)))])) _
    refine XS.iloadN X22.here hx rfl (hb hby at_66) rfl ?_
    show Steps p.tables e below (T22.setTop (mkF m 67 #[.val (.int p1), .val (.int p2), .val (.ref b3), .val (.int ((p1 &&& (2147483647 : Int32)) % (6 : Int32))), .val (.int ((p2 &&& (2147483647 : Int32)) % (7 : Int32))), .unset] [(.int ((p1 &&& (2147483647 : Int32)) % (6 : Int32))), (.int ((p2 &&& (2147483647 : Int32)) % (7 : Int32)))])) _
    refine XS.icmpNo X22.here hx rfl (hb hby at_67) rfl (feq hc67).1 ?_
    show Steps p.tables e below (T22.setTop (mkF m 70 #[.val (.int p1), .val (.int p2), .val (.ref b3), .val (.int ((p1 &&& (2147483647 : Int32)) % (6 : Int32))), .val (.int ((p2 &&& (2147483647 : Int32)) % (7 : Int32))), .unset] [])) _
    refine XS.iloadN X22.here hx rfl (hb hby at_70) rfl ?_
    show Steps p.tables e below (T22.setTop (mkF m 71 #[.val (.int p1), .val (.int p2), .val (.ref b3), .val (.int ((p1 &&& (2147483647 : Int32)) % (6 : Int32))), .val (.int ((p2 &&& (2147483647 : Int32)) % (7 : Int32))), .unset] [(.int ((p1 &&& (2147483647 : Int32)) % (6 : Int32)))])) _
    refine XS.iconst X22.here hx rfl (hb hby at_71) ?_
    show Steps p.tables e below (T22.setTop (mkF m 72 #[.val (.int p1), .val (.int p2), .val (.ref b3), .val (.int ((p1 &&& (2147483647 : Int32)) % (6 : Int32))), .val (.int ((p2 &&& (2147483647 : Int32)) % (7 : Int32))), .unset] [(.int (1 : Int32)), (.int ((p1 &&& (2147483647 : Int32)) % (6 : Int32)))])) _
    refine XS.icmpNo X22.here hx rfl (hb hby at_72) rfl (teq hc72).2 ?_
    show Steps p.tables e below (T22.setTop (mkF m 75 #[.val (.int p1), .val (.int p2), .val (.ref b3), .val (.int ((p1 &&& (2147483647 : Int32)) % (6 : Int32))), .val (.int ((p2 &&& (2147483647 : Int32)) % (7 : Int32))), .unset] [])) _
    refine XS.iload X22.here hx rfl (hb hby at_75) rfl ?_
    show Steps p.tables e below (T22.setTop (mkF m 77 #[.val (.int p1), .val (.int p2), .val (.ref b3), .val (.int ((p1 &&& (2147483647 : Int32)) % (6 : Int32))), .val (.int ((p2 &&& (2147483647 : Int32)) % (7 : Int32))), .unset] [(.int ((p2 &&& (2147483647 : Int32)) % (7 : Int32)))])) _
    refine XS.ifNo X22.here hx rfl (hb hby at_77) rfl ((if0 _ _).trans (feq hc77).1) ?_
    show Steps p.tables e below (T22.setTop (mkF m 80 #[.val (.int p1), .val (.int p2), .val (.ref b3), .val (.int ((p1 &&& (2147483647 : Int32)) % (6 : Int32))), .val (.int ((p2 &&& (2147483647 : Int32)) % (7 : Int32))), .unset] [])) _
    refine XS.iloadN X22.here hx rfl (hb hby at_80) rfl ?_
    show Steps p.tables e below (T22.setTop (mkF m 81 #[.val (.int p1), .val (.int p2), .val (.ref b3), .val (.int ((p1 &&& (2147483647 : Int32)) % (6 : Int32))), .val (.int ((p2 &&& (2147483647 : Int32)) % (7 : Int32))), .unset] [(.int ((p1 &&& (2147483647 : Int32)) % (6 : Int32)))])) _
    refine XS.iconst X22.here hx rfl (hb hby at_81) ?_
    show Steps p.tables e below (T22.setTop (mkF m 82 #[.val (.int p1), .val (.int p2), .val (.ref b3), .val (.int ((p1 &&& (2147483647 : Int32)) % (6 : Int32))), .val (.int ((p2 &&& (2147483647 : Int32)) % (7 : Int32))), .unset] [(.int (4 : Int32)), (.int ((p1 &&& (2147483647 : Int32)) % (6 : Int32)))])) _
    refine XS.icmpYes X22.here hx rfl (pc0 := 82) (pc' := 95) rfl (hb hby at_82) rfl (feq hc82).2 (by decide) (by decide) ?_
    show Steps p.tables e below (T22.setTop (mkF m 95 #[.val (.int p1), .val (.int p2), .val (.ref b3), .val (.int ((p1 &&& (2147483647 : Int32)) % (6 : Int32))), .val (.int ((p2 &&& (2147483647 : Int32)) % (7 : Int32))), .unset] [])) _
    refine XS.iconst X22.here hx rfl (hb hby at_95) ?_
    show Steps p.tables e below (T22.setTop (mkF m 96 #[.val (.int p1), .val (.int p2), .val (.ref b3), .val (.int ((p1 &&& (2147483647 : Int32)) % (6 : Int32))), .val (.int ((p2 &&& (2147483647 : Int32)) % (7 : Int32))), .unset] [(.int (0 : Int32))])) _
    refine XS.istore X22.here hx rfl (hb hby at_96) rfl (l' := #[.val (.int p1), .val (.int p2), .val (.ref b3), .val (.int ((p1 &&& (2147483647 : Int32)) % (6 : Int32))), .val (.int ((p2 &&& (2147483647 : Int32)) % (7 : Int32))), .val (.int (0 : Int32))]) rfl ?_
    show Steps p.tables e below (T22.setTop (mkF m 98 #[.val (.int p1), .val (.int p2), .val (.ref b3), .val (.int ((p1 &&& (2147483647 : Int32)) % (6 : Int32))), .val (.int ((p2 &&& (2147483647 : Int32)) % (7 : Int32))), .val (.int (0 : Int32))] [])) _
    refine XS.aloadN X22.here hx rfl (hb hby at_98) rfl rfl ?_
    show Steps p.tables e below (T22.setTop (mkF m 99 #[.val (.int p1), .val (.int p2), .val (.ref b3), .val (.int ((p1 &&& (2147483647 : Int32)) % (6 : Int32))), .val (.int ((p2 &&& (2147483647 : Int32)) % (7 : Int32))), .val (.int (0 : Int32))] [(.ref b3)])) _
    refine XS.iloadN X22.here hx rfl (hb hby at_99) rfl ?_
    show Steps p.tables e below (T22.setTop (mkF m 100 #[.val (.int p1), .val (.int p2), .val (.ref b3), .val (.int ((p1 &&& (2147483647 : Int32)) % (6 : Int32))), .val (.int ((p2 &&& (2147483647 : Int32)) % (7 : Int32))), .val (.int (0 : Int32))] [(.int ((p1 &&& (2147483647 : Int32)) % (6 : Int32))), (.ref b3)])) _
    refine X22.aaload hx (j := ((p1 &&& (2147483647 : Int32)) % (6 : Int32))) (v := (.ref w23)) (by rw [e22]; exact Ar_b3_100.1) (State.isArrayOf_alike hZ.alike Ar_b3_100.2.1) rfl Ar_b3_100.2.2 hin100 hat100 (g := (mkF m 100 #[.val (.int p1), .val (.int p2), .val (.ref b3), .val (.int ((p1 &&& (2147483647 : Int32)) % (6 : Int32))), .val (.int ((p2 &&& (2147483647 : Int32)) % (7 : Int32))), .val (.int (0 : Int32))] [(.int ((p1 &&& (2147483647 : Int32)) % (6 : Int32))), (.ref b3)])) rfl rfl (hb hby at_100) _ ?_
    show Steps p.tables e below (T22.setTop (mkF m 101 #[.val (.int p1), .val (.int p2), .val (.ref b3), .val (.int ((p1 &&& (2147483647 : Int32)) % (6 : Int32))), .val (.int ((p2 &&& (2147483647 : Int32)) % (7 : Int32))), .val (.int (0 : Int32))] [(.ref w23)])) _
    refine XS.aloadN X22.here hx rfl (hb hby at_101) rfl rfl ?_
    show Steps p.tables e below (T22.setTop (mkF m 102 #[.val (.int p1), .val (.int p2), .val (.ref b3), .val (.int ((p1 &&& (2147483647 : Int32)) % (6 : Int32))), .val (.int ((p2 &&& (2147483647 : Int32)) % (7 : Int32))), .val (.int (0 : Int32))] [(.ref b3), (.ref w23)])) _
    refine XS.iload X22.here hx rfl (hb hby at_102) rfl ?_
    show Steps p.tables e below (T22.setTop (mkF m 104 #[.val (.int p1), .val (.int p2), .val (.ref b3), .val (.int ((p1 &&& (2147483647 : Int32)) % (6 : Int32))), .val (.int ((p2 &&& (2147483647 : Int32)) % (7 : Int32))), .val (.int (0 : Int32))] [(.int ((p2 &&& (2147483647 : Int32)) % (7 : Int32))), (.ref b3), (.ref w23)])) _
    refine X22.aaload hx (j := ((p2 &&& (2147483647 : Int32)) % (7 : Int32))) (v := .null) (by rw [e22]; exact Ar_b3_104.1) (State.isArrayOf_alike hZ.alike Ar_b3_104.2.1) rfl Ar_b3_104.2.2 hin104 hat104 (g := (mkF m 104 #[.val (.int p1), .val (.int p2), .val (.ref b3), .val (.int ((p1 &&& (2147483647 : Int32)) % (6 : Int32))), .val (.int ((p2 &&& (2147483647 : Int32)) % (7 : Int32))), .val (.int (0 : Int32))] [(.int ((p2 &&& (2147483647 : Int32)) % (7 : Int32))), (.ref b3), (.ref w23)])) rfl rfl (hb hby at_104) _ ?_
    show Steps p.tables e below (T22.setTop (mkF m 105 #[.val (.int p1), .val (.int p2), .val (.ref b3), .val (.int ((p1 &&& (2147483647 : Int32)) % (6 : Int32))), .val (.int ((p2 &&& (2147483647 : Int32)) % (7 : Int32))), .val (.int (0 : Int32))] [.null, (.ref w23)])) _
    refine st25.trans ?_
    show Steps p.tables e below (T25.setTop (mkF m 108 #[.val (.int p1), .val (.int p2), .val (.ref b3), .val (.int ((p1 &&& (2147483647 : Int32)) % (6 : Int32))), .val (.int ((p2 &&& (2147483647 : Int32)) % (7 : Int32))), .val (.int (0 : Int32))] [(.int r25)])) _
    refine XS.iload X25.here hx rfl (hb hby at_108) rfl ?_
    show Steps p.tables e below (T25.setTop (mkF m 110 #[.val (.int p1), .val (.int p2), .val (.ref b3), .val (.int ((p1 &&& (2147483647 : Int32)) % (6 : Int32))), .val (.int ((p2 &&& (2147483647 : Int32)) % (7 : Int32))), .val (.int (0 : Int32))] [(.int (0 : Int32)), (.int r25)])) _
    refine XS.icmpNo X25.here hx rfl (hb hby at_110) rfl (teq hx1).2 ?_
    show Steps p.tables e below (T25.setTop (mkF m 113 #[.val (.int p1), .val (.int p2), .val (.ref b3), .val (.int ((p1 &&& (2147483647 : Int32)) % (6 : Int32))), .val (.int ((p2 &&& (2147483647 : Int32)) % (7 : Int32))), .val (.int (0 : Int32))] [])) _
    refine XS.iconst X25.here hx rfl (hb hby at_113) ?_
    show Steps p.tables e below (T25.setTop (mkF m 114 #[.val (.int p1), .val (.int p2), .val (.ref b3), .val (.int ((p1 &&& (2147483647 : Int32)) % (6 : Int32))), .val (.int ((p2 &&& (2147483647 : Int32)) % (7 : Int32))), .val (.int (0 : Int32))] [(.int (1 : Int32))])) _
    refine XS.goto X25.here hx rfl (pc0 := 114) (pc' := 118) rfl (hb hby at_114) (by decide) (by decide) ?_
    show Steps p.tables e below (T25.setTop (mkF m 118 #[.val (.int p1), .val (.int p2), .val (.ref b3), .val (.int ((p1 &&& (2147483647 : Int32)) % (6 : Int32))), .val (.int ((p2 &&& (2147483647 : Int32)) % (7 : Int32))), .val (.int (0 : Int32))] [(.int (1 : Int32))])) _
    exact retN X25 hx (t := .boolean) Bd.returns (by simp) (hb hby at_118) hr
  · show Q0_n_ffftf Z p1 p2 w4 w7 w10 w13 w16 w19 w23 h0 n0 _ T25.heap _
    exact ⟨rfl, N25⟩
def Q0_n_ftftf (Z : State) (p1 : Int32) (p2 : Int32) (w4 : Addr) (w7 : Addr) (w10 : Addr) (w13 : Addr) (w16 : Addr) (w19 : Addr) (w23 : Addr) (h0 : Heap) (n0 : Nat) (v : Option Value) (h : Heap) (L : List Loc) : Prop := v = some (.int (1 : Int32)) ∧ Fr n0 L
set_option maxRecDepth 65536 in
set_option maxHeartbeats 40000000 in
theorem rm0_n_ftftf (l : Launch) (Z : State) (a0 : Array Value) (hw : ∀ d ∈ tables_1, d.before a0 Z = true) (ws : List Jvm.Cond) (p1 : Int32) (p2 : Int32) (w4 : Addr) (w7 : Addr) (w10 : Addr) (w13 : Addr) (w16 : Addr) (w19 : Addr) (w23 : Addr) (r25 : Int32) (h0 : Heap) (n0 : Nat) (Z0 : n0 ≤ h0.size) (S_BIGINT : Sta Z h0 "com/example/indexwright/indexwright/sql/ColumnType" "BIGINT" "Lcom/example/indexwright/indexwright/sql/ColumnType;" (.ref w4)) (S_DOUBLE : Sta Z h0 "com/example/indexwright/indexwright/sql/ColumnType" "DOUBLE" "Lcom/example/indexwright/indexwright/sql/ColumnType;" (.ref w7)) (S_VARCHAR : Sta Z h0 "com/example/indexwright/indexwright/sql/ColumnType" "VARCHAR" "Lcom/example/indexwright/indexwright/sql/ColumnType;" (.ref w10)) (S_BIGINT_ARRAY : Sta Z h0 "com/example/indexwright/indexwright/sql/ColumnType" "BIGINT_ARRAY" "Lcom/example/indexwright/indexwright/sql/ColumnType;" (.ref w13)) (S_DOUBLE_ARRAY : Sta Z h0 "com/example/indexwright/indexwright/sql/ColumnType" "DOUBLE_ARRAY" "Lcom/example/indexwright/indexwright/sql/ColumnType;" (.ref w16)) (S_VARCHAR_ARRAY : Sta Z h0 "com/example/indexwright/indexwright/sql/ColumnType" "VARCHAR_ARRAY" "Lcom/example/indexwright/indexwright/sql/ColumnType;" (.ref w19)) (E_w23 : Exa Z h0 w23 "com/example/indexwright/indexwright/sql/ColumnType") (hc67 : ¬ (((p2 &&& (2147483647 : Int32)) % (7 : Int32)) = ((p1 &&& (2147483647 : Int32)) % (6 : Int32)))) (hc72 : ¬ (((p1 &&& (2147483647 : Int32)) % (6 : Int32)) = (1 : Int32))) (hc82 : ((p1 &&& (2147483647 : Int32)) % (6 : Int32)) = (4 : Int32)) (hc88 : ¬ (((p2 &&& (2147483647 : Int32)) % (7 : Int32)) = (3 : Int32))) (E_w4 : Exa Z h0 w4 "com/example/indexwright/indexwright/sql/ColumnType") (E_w7 : Exa Z h0 w7 "com/example/indexwright/indexwright/sql/ColumnType") (E_w10 : Exa Z h0 w10 "com/example/indexwright/indexwright/sql/ColumnType") (E_w13 : Exa Z h0 w13 "com/example/indexwright/indexwright/sql/ColumnType") (E_w16 : Exa Z h0 w16 "com/example/indexwright/indexwright/sql/ColumnType") (E_w19 : Exa Z h0 w19 "com/example/indexwright/indexwright/sql/ColumnType") (hj100 : ¬ ((p1 &&& (2147483647 : Int32)) % (6 : Int32)) < 0 ∧ ((p1 &&& (2147483647 : Int32)) % (6 : Int32)) < (7 : Int32)) (hu100 : ([(.ref w4), (.ref w7), (.ref w10), (.ref w13), (.ref w16), (.ref w19), .null] : List Value).getD (((p1 &&& (2147483647 : Int32)) % (6 : Int32))).toNatClampNeg .null = (.ref w23)) (hj104 : ¬ ((p2 &&& (2147483647 : Int32)) % (7 : Int32)) < 0 ∧ ((p2 &&& (2147483647 : Int32)) % (7 : Int32)) < (7 : Int32)) (hu104 : ([(.ref w4), (.ref w7), (.ref w10), (.ref w13), (.ref w16), (.ref w19), .null] : List Value).getD (((p2 &&& (2147483647 : Int32)) % (7 : Int32))).toNatClampNeg .null = .null) (hP25 : P1n Z h0 w23 (some (.int r25))) (hx1 : r25 = (0 : Int32)) :
    MetFree l x (head1 (Jvm.Cond.code x code maxLocals ret :: ws) room_1) (fun a U => a = #[(.int p1), (.int p2)] ∧ Z.Warmed39 U.vm ∧ U.heap = h0) (fun _ _ _ _ _ => True) (fun _ U o U' => ∃ v L, o = .returned v ∧ Q0_n_ftftf Z p1 p2 w4 w7 w10 w13 w16 w19 w23 h0 n0 v U'.heap L ∧ FrameEnd U o U' L room_1.cells room_1.slots) := by
  refine MetFree.of_bodySF (plainFor_of_name pn_0) hisR ?_
  intro p e s m args below meth c s₁ Bd hml0 hP hK
  obtain ⟨rfl, hZ, hh⟩ := hP
  have hx := Bd.exec
  have hby := Bd.bytes
  have hml : c.maxLocals = 6 := hml0
  have hown : s.vm.findClass "com/example/indexwright/indexwright/sql/ColumnTypeHoldsPinLaw" = some m.cls := findClass_of_methodNamed Bd.named
  have hnm := (name_of_methodNamed Bd.named Bd.method).1
  have X0 : Stand p l e room_1 s m #[(.int p1), (.int p2)] below meth c s₁ [] 0 0 := Stand.of_body Bd
  have e0 : s₁.heap = h0 := by rw [← hh, Bd.state]; rfl
  have N0 := Fr.nil n0
  have pre0 : ∀ t, Steps p.tables e below (s₁.setTop (mkF m 0 #[.val (.int p1), .val (.int p2), .unset, .unset, .unset, .unset] [])) t → Steps p.tables e below (s₁.setTop (entryFrame m #[(.int p1), (.int p2)] maxLocals)) t := fun t k => castTop (ef_0 m p1 p2) k
  -- 3. LAWS
  obtain ⟨T3, h3, k3, X3, e3, E3, A3, O3, st3⟩ := newR X0 hx hZ hown (hw _ (List.mem_of_getElem? (i := 0) rfl)) (hw _ (List.mem_of_getElem? (i := 1) rfl)) e0 (g := (mkF m 2 #[.val (.int p1), .val (.int p2), .unset, .unset, .unset, .unset] [(.int (7 : Int32))])) rfl (hb hby at_2) rfl (by decide) (cap := 7) (by decide) (by decide) (by decide) (by decide)
  obtain ⟨b3, g3⟩ : ∃ z, z = h0.size := ⟨_, rfl⟩      -- the fresh array's address
  rw [← g3] at A3 st3
  have V_b3 : Arv Z h3 b3 k3 (.object "com/example/indexwright/indexwright/sql/ColumnType") (7 : Int32) [.null, .null, .null, .null, .null, .null, .null] .null := (Arv.new A3 (by decide)).pad (pad_rep [] .null 7)
  have g_b3 : n0 ≤ b3 := Nat.le_trans Z0 (Nat.le_of_eq g3.symm)
  have sz_b3 : h0.size ≤ b3 := (Nat.le_trans (Keep.refl h0 []).1 (Nat.le_of_eq g3.symm))
  have K3 : Keep h0 h3 [] := (Keep.refl h0 []).ext E3
  obtain ⟨T5, X5, e5, st5⟩ := getS2 X3 hx hZ hown (host := "") (Or.inl (hw _ (List.mem_of_getElem? (i := 2) rfl))) Via.refl e3 (own_stak S_BIGINT K3) (g := (mkF m 7 #[.val (.int p1), .val (.int p2), .unset, .unset, .unset, .unset] [(.int (0 : Int32)), (.ref b3), (.ref b3)])) rfl (hb hby at_7)
  -- Sto10: the object may lie in that array: Sto.of Ar.. (an 'Ovr', by the sheet's words) (an 'Ins' of its class), Shelf42/RW6; carried by Sto.ext E.. | Sto.wr W..
  obtain ⟨cl_10, Ar_b3, q_b3, S_b3, N_b3, H_b3, G_b3⟩ := V_b3
  have hin10 := inb_of (j := (0 : Int32)) S_b3 ⟨by decide, by decide⟩
  have Sto10 := Sto.ofV Ar_b3 q_b3 O3 (Ins.self (E_w4.keep K3))
  obtain ⟨T6, h6, X6, e6, W6, st6⟩ := stR X5 hx hZ e5 Ar_b3 (j := (0 : Int32)) hin10 rfl Sto10 (g := (mkF m 10 #[.val (.int p1), .val (.int p2), .unset, .unset, .unset, .unset] [(.ref w4), (.int (0 : Int32)), (.ref b3), (.ref b3)])) rfl rfl (hb hby at_10)
  have V_b3_6 : Arv Z h6 b3 _ (.object "com/example/indexwright/indexwright/sql/ColumnType") (7 : Int32) [(.ref w4), .null, .null, .null, .null, .null, .null] .null := Arv.set Ar_b3 q_b3 S_b3 N_b3 H_b3 G_b3 rfl W6 0 rfl (Nat.le_of_ble_eq_true rfl)
  have N6 := Fr.snoc X6 N0 g_b3
  -- Ar_b3.same W6 : the array with (.ref w4) at the place (0 : Int32)
  have K6 : Keep h0 h6 [] := K3.wr W6 (Or.inr sz_b3)
  obtain ⟨T8, X8, e8, st8⟩ := getS2 X6 hx hZ hown (host := "") (Or.inl (hw _ (List.mem_of_getElem? (i := 6) rfl))) Via.refl e6 (own_stak S_DOUBLE K6) (g := (mkF m 13 #[.val (.int p1), .val (.int p2), .unset, .unset, .unset, .unset] [(.int (1 : Int32)), (.ref b3), (.ref b3)])) rfl (hb hby at_13)
  -- Sto16: the object may lie in that array: Sto.of Ar.. (an 'Ovr', by the sheet's words) (an 'Ins' of its class), Shelf42/RW6; carried by Sto.ext E.. | Sto.wr W..
  obtain ⟨cl_16, Ar_b3, q_b3, S_b3, N_b3, H_b3, G_b3⟩ := V_b3_6
  have hin16 := inb_of (j := (1 : Int32)) S_b3 ⟨by decide, by decide⟩
  have Sto16 := Sto.ofV Ar_b3 q_b3 O3 (Ins.self (E_w7.keep K6))
  obtain ⟨T9, h9, X9, e9, W9, st9⟩ := stR X8 hx hZ e8 Ar_b3 (j := (1 : Int32)) hin16 rfl Sto16 (g := (mkF m 16 #[.val (.int p1), .val (.int p2), .unset, .unset, .unset, .unset] [(.ref w7), (.int (1 : Int32)), (.ref b3), (.ref b3)])) rfl rfl (hb hby at_16)
  have V_b3_9 : Arv Z h9 b3 _ (.object "com/example/indexwright/indexwright/sql/ColumnType") (7 : Int32) [(.ref w4), (.ref w7), .null, .null, .null, .null, .null] .null := Arv.set Ar_b3 q_b3 S_b3 N_b3 H_b3 G_b3 rfl W9 1 rfl (Nat.le_of_ble_eq_true rfl)
  have N9 := Fr.snoc X9 N6 g_b3
  -- Ar_b3.same W9 : the array with (.ref w7) at the place (1 : Int32)
  have K9 : Keep h0 h9 [] := K6.wr W9 (Or.inr sz_b3)
  obtain ⟨T11, X11, e11, st11⟩ := getS2 X9 hx hZ hown (host := "") (Or.inl (hw _ (List.mem_of_getElem? (i := 8) rfl))) Via.refl e9 (own_stak S_VARCHAR K9) (g := (mkF m 19 #[.val (.int p1), .val (.int p2), .unset, .unset, .unset, .unset] [(.int (2 : Int32)), (.ref b3), (.ref b3)])) rfl (hb hby at_19)
  -- Sto22: the object may lie in that array: Sto.of Ar.. (an 'Ovr', by the sheet's words) (an 'Ins' of its class), Shelf42/RW6; carried by Sto.ext E.. | Sto.wr W..
  obtain ⟨cl_22, Ar_b3, q_b3, S_b3, N_b3, H_b3, G_b3⟩ := V_b3_9
  have hin22 := inb_of (j := (2 : Int32)) S_b3 ⟨by decide, by decide⟩
  have Sto22 := Sto.ofV Ar_b3 q_b3 O3 (Ins.self (E_w10.keep K9))
  obtain ⟨T12, h12, X12, e12, W12, st12⟩ := stR X11 hx hZ e11 Ar_b3 (j := (2 : Int32)) hin22 rfl Sto22 (g := (mkF m 22 #[.val (.int p1), .val (.int p2), .unset, .unset, .unset, .unset] [(.ref w10), (.int (2 : Int32)), (.ref b3), (.ref b3)])) rfl rfl (hb hby at_22)
  have V_b3_12 : Arv Z h12 b3 _ (.object "com/example/indexwright/indexwright/sql/ColumnType") (7 : Int32) [(.ref w4), (.ref w7), (.ref w10), .null, .null, .null, .null] .null := Arv.set Ar_b3 q_b3 S_b3 N_b3 H_b3 G_b3 rfl W12 2 rfl (Nat.le_of_ble_eq_true rfl)
  have N12 := Fr.snoc X12 N9 g_b3
  -- Ar_b3.same W12 : the array with (.ref w10) at the place (2 : Int32)
  have K12 : Keep h0 h12 [] := K9.wr W12 (Or.inr sz_b3)
  obtain ⟨T14, X14, e14, st14⟩ := getS2 X12 hx hZ hown (host := "") (Or.inl (hw _ (List.mem_of_getElem? (i := 10) rfl))) Via.refl e12 (own_stak S_BIGINT_ARRAY K12) (g := (mkF m 25 #[.val (.int p1), .val (.int p2), .unset, .unset, .unset, .unset] [(.int (3 : Int32)), (.ref b3), (.ref b3)])) rfl (hb hby at_25)
  -- Sto28: the object may lie in that array: Sto.of Ar.. (an 'Ovr', by the sheet's words) (an 'Ins' of its class), Shelf42/RW6; carried by Sto.ext E.. | Sto.wr W..
  obtain ⟨cl_28, Ar_b3, q_b3, S_b3, N_b3, H_b3, G_b3⟩ := V_b3_12
  have hin28 := inb_of (j := (3 : Int32)) S_b3 ⟨by decide, by decide⟩
  have Sto28 := Sto.ofV Ar_b3 q_b3 O3 (Ins.self (E_w13.keep K12))
  obtain ⟨T15, h15, X15, e15, W15, st15⟩ := stR X14 hx hZ e14 Ar_b3 (j := (3 : Int32)) hin28 rfl Sto28 (g := (mkF m 28 #[.val (.int p1), .val (.int p2), .unset, .unset, .unset, .unset] [(.ref w13), (.int (3 : Int32)), (.ref b3), (.ref b3)])) rfl rfl (hb hby at_28)
  have V_b3_15 : Arv Z h15 b3 _ (.object "com/example/indexwright/indexwright/sql/ColumnType") (7 : Int32) [(.ref w4), (.ref w7), (.ref w10), (.ref w13), .null, .null, .null] .null := Arv.set Ar_b3 q_b3 S_b3 N_b3 H_b3 G_b3 rfl W15 3 rfl (Nat.le_of_ble_eq_true rfl)
  have N15 := Fr.snoc X15 N12 g_b3
  -- Ar_b3.same W15 : the array with (.ref w13) at the place (3 : Int32)
  have K15 : Keep h0 h15 [] := K12.wr W15 (Or.inr sz_b3)
  obtain ⟨T17, X17, e17, st17⟩ := getS2 X15 hx hZ hown (host := "") (Or.inl (hw _ (List.mem_of_getElem? (i := 12) rfl))) Via.refl e15 (own_stak S_DOUBLE_ARRAY K15) (g := (mkF m 31 #[.val (.int p1), .val (.int p2), .unset, .unset, .unset, .unset] [(.int (4 : Int32)), (.ref b3), (.ref b3)])) rfl (hb hby at_31)
  -- Sto34: the object may lie in that array: Sto.of Ar.. (an 'Ovr', by the sheet's words) (an 'Ins' of its class), Shelf42/RW6; carried by Sto.ext E.. | Sto.wr W..
  obtain ⟨cl_34, Ar_b3, q_b3, S_b3, N_b3, H_b3, G_b3⟩ := V_b3_15
  have hin34 := inb_of (j := (4 : Int32)) S_b3 ⟨by decide, by decide⟩
  have Sto34 := Sto.ofV Ar_b3 q_b3 O3 (Ins.self (E_w16.keep K15))
  obtain ⟨T18, h18, X18, e18, W18, st18⟩ := stR X17 hx hZ e17 Ar_b3 (j := (4 : Int32)) hin34 rfl Sto34 (g := (mkF m 34 #[.val (.int p1), .val (.int p2), .unset, .unset, .unset, .unset] [(.ref w16), (.int (4 : Int32)), (.ref b3), (.ref b3)])) rfl rfl (hb hby at_34)
  have V_b3_18 : Arv Z h18 b3 _ (.object "com/example/indexwright/indexwright/sql/ColumnType") (7 : Int32) [(.ref w4), (.ref w7), (.ref w10), (.ref w13), (.ref w16), .null, .null] .null := Arv.set Ar_b3 q_b3 S_b3 N_b3 H_b3 G_b3 rfl W18 4 rfl (Nat.le_of_ble_eq_true rfl)
  have N18 := Fr.snoc X18 N15 g_b3
  -- Ar_b3.same W18 : the array with (.ref w16) at the place (4 : Int32)
  have K18 : Keep h0 h18 [] := K15.wr W18 (Or.inr sz_b3)
  obtain ⟨T20, X20, e20, st20⟩ := getS2 X18 hx hZ hown (host := "") (Or.inl (hw _ (List.mem_of_getElem? (i := 14) rfl))) Via.refl e18 (own_stak S_VARCHAR_ARRAY K18) (g := (mkF m 37 #[.val (.int p1), .val (.int p2), .unset, .unset, .unset, .unset] [(.int (5 : Int32)), (.ref b3), (.ref b3)])) rfl (hb hby at_37)
  -- Sto40: the object may lie in that array: Sto.of Ar.. (an 'Ovr', by the sheet's words) (an 'Ins' of its class), Shelf42/RW6; carried by Sto.ext E.. | Sto.wr W..
  obtain ⟨cl_40, Ar_b3, q_b3, S_b3, N_b3, H_b3, G_b3⟩ := V_b3_18
  have hin40 := inb_of (j := (5 : Int32)) S_b3 ⟨by decide, by decide⟩
  have Sto40 := Sto.ofV Ar_b3 q_b3 O3 (Ins.self (E_w19.keep K18))
  obtain ⟨T21, h21, X21, e21, W21, st21⟩ := stR X20 hx hZ e20 Ar_b3 (j := (5 : Int32)) hin40 rfl Sto40 (g := (mkF m 40 #[.val (.int p1), .val (.int p2), .unset, .unset, .unset, .unset] [(.ref w19), (.int (5 : Int32)), (.ref b3), (.ref b3)])) rfl rfl (hb hby at_40)
  have V_b3_21 : Arv Z h21 b3 _ (.object "com/example/indexwright/indexwright/sql/ColumnType") (7 : Int32) [(.ref w4), (.ref w7), (.ref w10), (.ref w13), (.ref w16), (.ref w19), .null] .null := Arv.set Ar_b3 q_b3 S_b3 N_b3 H_b3 G_b3 rfl W21 5 rfl (Nat.le_of_ble_eq_true rfl)
  have N21 := Fr.snoc X21 N18 g_b3
  -- Ar_b3.same W21 : the array with (.ref w19) at the place (5 : Int32)
  have K21 : Keep h0 h21 [] := K18.wr W21 (Or.inr sz_b3)
  obtain ⟨cl_45, Ar_b3, q_b3, S_b3, N_b3, H_b3, G_b3⟩ := V_b3_21
  have hin45 := inb_of (j := (6 : Int32)) S_b3 ⟨by decide, by decide⟩
  obtain ⟨T22, h22, X22, e22, W22, st22⟩ := stR X21 hx hZ e21 Ar_b3 (j := (6 : Int32)) hin45 rfl (Or.inl rfl) (g := (mkF m 45 #[.val (.int p1), .val (.int p2), .unset, .unset, .unset, .unset] [.null, (.int (6 : Int32)), (.ref b3), (.ref b3)])) rfl rfl (hb hby at_45)
  have V_b3_22 : Arv Z h22 b3 _ (.object "com/example/indexwright/indexwright/sql/ColumnType") (7 : Int32) [(.ref w4), (.ref w7), (.ref w10), (.ref w13), (.ref w16), (.ref w19), .null] .null := Arv.set Ar_b3 q_b3 S_b3 N_b3 H_b3 G_b3 rfl W22 6 rfl (Nat.le_of_ble_eq_true rfl)
  have N22 := Fr.snoc X22 N21 g_b3
  -- Ar_b3.same W22 : the array with .null at the place (6 : Int32)
  have K22 : Keep h0 h22 [] := K21.wr W22 (Or.inr sz_b3)
  obtain ⟨cl_100, Ar_b3_100, q_b3, S_b3, N_b3, H_b3, G_b3⟩ := V_b3_22
  have hin100 := inb_of S_b3 hj100
  have hat100 := H_b3.at hin100 hu100
  have V_b3_p100 : Arv Z h22 b3 _ (.object "com/example/indexwright/indexwright/sql/ColumnType") (7 : Int32) [(.ref w4), (.ref w7), (.ref w10), (.ref w13), (.ref w16), (.ref w19), .null] .null := ⟨cl_100, Ar_b3_100, q_b3, S_b3, N_b3, H_b3, G_b3⟩
  obtain ⟨cl_104, Ar_b3_104, q_b3, S_b3, N_b3, H_b3, G_b3⟩ := V_b3_p100
  have hin104 := inb_of S_b3 hj104
  have hat104 := H_b3.at hin104 hu104
  have V_b3_p104 : Arv Z h22 b3 _ (.object "com/example/indexwright/indexwright/sql/ColumnType") (7 : Int32) [(.ref w4), (.ref w7), (.ref w10), (.ref w13), (.ref w16), (.ref w19), .null] .null := ⟨cl_104, Ar_b3_104, q_b3, S_b3, N_b3, H_b3, G_b3⟩
  -- pc 105: com/example/indexwright/indexwright/sql/ColumnType.holds by the contract of the body that the receiver's class selects, rm1
  obtain ⟨cq25, kq25, q25a, q25b, q25c⟩ := isOf hZ e22 (E_w23.keep K22)
  obtain ⟨_, _, ⟨T25, L25, k25, n25⟩, -, X25, ⟨Lc25, hQ25, l25, y25, z25⟩, st25⟩ := X22.virtualBack hx (y := (⟨"com/example/indexwright/indexwright/sql/ColumnType", "holds", "(Lcom/example/indexwright/indexwright/sql/ColumnType;)Z"⟩ : MethodName)) (z := (⟨"com/example/indexwright/indexwright/sql/ColumnType", "holds", "(Lcom/example/indexwright/indexwright/sql/ColumnType;)Z"⟩ : MethodName)) hown (mvT hZ (hw _ (List.mem_of_getElem? (i := 17) rfl))) (mvT hZ (hw _ (List.mem_of_getElem? (i := 18) rfl))) (notFace_of_selects (args := #[]) (mvT hZ (hw _ (List.mem_of_getElem? (i := 20) rfl)))) (mvT hZ (hw _ (List.mem_of_getElem? (i := 20) rfl))) (mvT hZ (hw _ (List.mem_of_getElem? (i := 19) rfl))) (by decide) (backOf (W := 0) (own_1n l Z a0 hw [] w23 (some (.int r25)) h22 n0 (Nat.le_trans Z0 K22.1) (P1n_keep K22 hP25)) hZ (hw _ (List.mem_of_getElem? (i := 21) rfl)) (hw _ (List.mem_of_getElem? (i := 3) rfl)) (by decide) (by decide)) q25a q25c (g := (mkF m 105 #[.val (.int p1), .val (.int p2), .val (.ref b3), .val (.int ((p1 &&& (2147483647 : Int32)) % (6 : Int32))), .val (.int ((p2 &&& (2147483647 : Int32)) % (7 : Int32))), .val (.int (0 : Int32))] [.null, (.ref w23)])) rfl (by rw [hml]; rfl) (Steps.refl _) (argsL := [.null]) (rest := []) (lenOf pd_0_0 rfl) rfl (by show 2 * 0 + _ ≤ _; exact Nat.le_of_eq rfl) (hb hby at_105) (fun _ _ => ⟨rfl, e22, (by decide : 1 + 0 ≤ _), (by decide : 7 + 0 ≤ _)⟩)
  dsimp only [Pt.U, Pt.locs, Pt.cells, Pt.slots] at X25 l25 y25 z25 st25 hQ25
  subst l25 y25 z25
  obtain ⟨rfl, N25q, e25⟩ := hQ25      -- what it returned, that it wrote nothing old, and the rest of your Q1
  have N25 := Fr.app N22 N25q
  obtain ⟨fs, hr, hrun, hended, hW, hsame⟩ := X25.leave (v := some (.int (1 : Int32))) (fun h => by rw [Bd.returns] at h; cases h)
  refine ⟨_, _, pre0 _ ?_, hrun, hended, _, _, rfl, ?_, ⟨_, rfl⟩, hW, hsame.mono (by decide) (by decide)⟩
  -- 4. STEPS
  · show Steps p.tables e below (s₁.setTop (mkF m 0 #[.val (.int p1), .val (.int p2), .unset, .unset, .unset, .unset] [])) _
    refine XS.bipush X0.here hx rfl (hb hby at_0) ?_
    show Steps p.tables e below (s₁.setTop (mkF m 2 #[.val (.int p1), .val (.int p2), .unset, .unset, .unset, .unset] [(.int (7 : Int32))])) _
    refine st3 _ ?_
    show Steps p.tables e below (T3.setTop (mkF m 5 #[.val (.int p1), .val (.int p2), .unset, .unset, .unset, .unset] [(.ref b3)])) _
    refine XS.dup X3.here hx rfl (hb hby at_5) rfl rfl ?_
    show Steps p.tables e below (T3.setTop (mkF m 6 #[.val (.int p1), .val (.int p2), .unset, .unset, .unset, .unset] [(.ref b3), (.ref b3)])) _
    refine XS.iconst X3.here hx rfl (hb hby at_6) ?_
    show Steps p.tables e below (T3.setTop (mkF m 7 #[.val (.int p1), .val (.int p2), .unset, .unset, .unset, .unset] [(.int (0 : Int32)), (.ref b3), (.ref b3)])) _
    refine st5 _ ?_
    show Steps p.tables e below (T5.setTop (mkF m 10 #[.val (.int p1), .val (.int p2), .unset, .unset, .unset, .unset] [(.ref w4), (.int (0 : Int32)), (.ref b3), (.ref b3)])) _
    refine st6 _ ?_
    show Steps p.tables e below (T6.setTop (mkF m 11 #[.val (.int p1), .val (.int p2), .unset, .unset, .unset, .unset] [(.ref b3)])) _
    refine XS.dup X6.here hx rfl (hb hby at_11) rfl rfl ?_
    show Steps p.tables e below (T6.setTop (mkF m 12 #[.val (.int p1), .val (.int p2), .unset, .unset, .unset, .unset] [(.ref b3), (.ref b3)])) _
    refine XS.iconst X6.here hx rfl (hb hby at_12) ?_
    show Steps p.tables e below (T6.setTop (mkF m 13 #[.val (.int p1), .val (.int p2), .unset, .unset, .unset, .unset] [(.int (1 : Int32)), (.ref b3), (.ref b3)])) _
    refine st8 _ ?_
    show Steps p.tables e below (T8.setTop (mkF m 16 #[.val (.int p1), .val (.int p2), .unset, .unset, .unset, .unset] [(.ref w7), (.int (1 : Int32)), (.ref b3), (.ref b3)])) _
    refine st9 _ ?_
    show Steps p.tables e below (T9.setTop (mkF m 17 #[.val (.int p1), .val (.int p2), .unset, .unset, .unset, .unset] [(.ref b3)])) _
    refine XS.dup X9.here hx rfl (hb hby at_17) rfl rfl ?_
    show Steps p.tables e below (T9.setTop (mkF m 18 #[.val (.int p1), .val (.int p2), .unset, .unset, .unset, .unset] [(.ref b3), (.ref b3)])) _
    refine XS.iconst X9.here hx rfl (hb hby at_18) ?_
    show Steps p.tables e below (T9.setTop (mkF m 19 #[.val (.int p1), .val (.int p2), .unset, .unset, .unset, .unset] [(.int (2 : Int32)), (.ref b3), (.ref b3)])) _
    refine st11 _ ?_
    show Steps p.tables e below (T11.setTop (mkF m 22 #[.val (.int p1), .val (.int p2), .unset, .unset, .unset, .unset] [(.ref w10), (.int (2 : Int32)), (.ref b3), (.ref b3)])) _
    refine st12 _ ?_
    show Steps p.tables e below (T12.setTop (mkF m 23 #[.val (.int p1), .val (.int p2), .unset, .unset, .unset, .unset] [(.ref b3)])) _
    refine XS.dup X12.here hx rfl (hb hby at_23) rfl rfl ?_
    show Steps p.tables e below (T12.setTop (mkF m 24 #[.val (.int p1), .val (.int p2), .unset, .unset, .unset, .unset] [(.ref b3), (.ref b3)])) _
    refine XS.iconst X12.here hx rfl (hb hby at_24) ?_
    show Steps p.tables e below (T12.setTop (mkF m 25 #[.val (.int p1), .val (.int p2), .unset, .unset, .unset, .unset] [(.int (3 : Int32)), (.ref b3), (.ref b3)])) _
    refine st14 _ ?_
    show Steps p.tables e below (T14.setTop (mkF m 28 #[.val (.int p1), .val (.int p2), .unset, .unset, .unset, .unset] [(.ref w13), (.int (3 : Int32)), (.ref b3), (.ref b3)])) _
    refine st15 _ ?_
    show Steps p.tables e below (T15.setTop (mkF m 29 #[.val (.int p1), .val (.int p2), .unset, .unset, .unset, .unset] [(.ref b3)])) _
    refine XS.dup X15.here hx rfl (hb hby at_29) rfl rfl ?_
    show Steps p.tables e below (T15.setTop (mkF m 30 #[.val (.int p1), .val (.int p2), .unset, .unset, .unset, .unset] [(.ref b3), (.ref b3)])) _
    refine XS.iconst X15.here hx rfl (hb hby at_30) ?_
    show Steps p.tables e below (T15.setTop (mkF m 31 #[.val (.int p1), .val (.int p2), .unset, .unset, .unset, .unset] [(.int (4 : Int32)), (.ref b3), (.ref b3)])) _
    refine st17 _ ?_
    show Steps p.tables e below (T17.setTop (mkF m 34 #[.val (.int p1), .val (.int p2), .unset, .unset, .unset, .unset] [(.ref w16), (.int (4 : Int32)), (.ref b3), (.ref b3)])) _
    refine st18 _ ?_
    show Steps p.tables e below (T18.setTop (mkF m 35 #[.val (.int p1), .val (.int p2), .unset, .unset, .unset, .unset] [(.ref b3)])) _
    refine XS.dup X18.here hx rfl (hb hby at_35) rfl rfl ?_
    show Steps p.tables e below (T18.setTop (mkF m 36 #[.val (.int p1), .val (.int p2), .unset, .unset, .unset, .unset] [(.ref b3), (.ref b3)])) _
    refine XS.iconst X18.here hx rfl (hb hby at_36) ?_
    show Steps p.tables e below (T18.setTop (mkF m 37 #[.val (.int p1), .val (.int p2), .unset, .unset, .unset, .unset] [(.int (5 : Int32)), (.ref b3), (.ref b3)])) _
    refine st20 _ ?_
    show Steps p.tables e below (T20.setTop (mkF m 40 #[.val (.int p1), .val (.int p2), .unset, .unset, .unset, .unset] [(.ref w19), (.int (5 : Int32)), (.ref b3), (.ref b3)])) _
    refine st21 _ ?_
    show Steps p.tables e below (T21.setTop (mkF m 41 #[.val (.int p1), .val (.int p2), .unset, .unset, .unset, .unset] [(.ref b3)])) _
    refine XS.dup X21.here hx rfl (hb hby at_41) rfl rfl ?_
    show Steps p.tables e below (T21.setTop (mkF m 42 #[.val (.int p1), .val (.int p2), .unset, .unset, .unset, .unset] [(.ref b3), (.ref b3)])) _
    refine XS.bipush X21.here hx rfl (hb hby at_42) ?_
    show Steps p.tables e below (T21.setTop (mkF m 44 #[.val (.int p1), .val (.int p2), .unset, .unset, .unset, .unset] [(.int (6 : Int32)), (.ref b3), (.ref b3)])) _
    refine XS.aconstNull X21.here hx rfl (hb hby at_44) ?_
    show Steps p.tables e below (T21.setTop (mkF m 45 #[.val (.int p1), .val (.int p2), .unset, .unset, .unset, .unset] [.null, (.int (6 : Int32)), (.ref b3), (.ref b3)])) _
    refine st22 _ ?_
    show Steps p.tables e below (T22.setTop (mkF m 46 #[.val (.int p1), .val (.int p2), .unset, .unset, .unset, .unset] [(.ref b3)])) _
    refine XS.astoreN X22.here hx rfl (hb hby at_46) rfl rfl (l' := #[.val (.int p1), .val (.int p2), .val (.ref b3), .unset, .unset, .unset]) rfl ?_
    show Steps p.tables e below (T22.setTop (mkF m 47 #[.val (.int p1), .val (.int p2), .val (.ref b3), .unset, .unset, .unset] [])) _
    refine XS.iloadN X22.here hx rfl (hb hby at_47) rfl ?_
    show Steps p.tables e below (T22.setTop (mkF m 48 #[.val (.int p1), .val (.int p2), .val (.ref b3), .unset, .unset, .unset] [(.int p1)])) _
    refine X22.ldcInt hx hown (mvT hZ (hw _ (List.mem_of_getElem? (i := 16) rfl))) (g := (mkF m 48 #[.val (.int p1), .val (.int p2), .val (.ref b3), .unset, .unset, .unset] [(.int p1)])) rfl (hb hby at_48) _ ?_
    show Steps p.tables e below (T22.setTop (mkF m 50 #[.val (.int p1), .val (.int p2), .val (.ref b3), .unset, .unset, .unset] [(.int (2147483647 : Int32)), (.int p1)])) _
    refine XS.iand X22.here hx rfl (hb hby at_50) rfl ?_
    show Steps p.tables e below (T22.setTop (mkF m 51 #[.val (.int p1), .val (.int p2), .val (.ref b3), .unset, .unset, .unset] [(.int (p1 &&& (2147483647 : Int32)))])) _
    refine XS.bipush X22.here hx rfl (hb hby at_51) ?_
    show Steps p.tables e below (T22.setTop (mkF m 53 #[.val (.int p1), .val (.int p2), .val (.ref b3), .unset, .unset, .unset] [(.int (6 : Int32)), (.int (p1 &&& (2147483647 : Int32)))])) _
    refine Jvm.RoadKit.iremM X22 hx rfl (hb hby at_53) rfl (by decide) ?_
    show Steps p.tables e below (T22.setTop (mkF m 54 #[.val (.int p1), .val (.int p2), .val (.ref b3), .unset, .unset, .unset] [(.int ((p1 &&& (2147483647 : Int32)) % (6 : Int32)))])) _
    refine XS.istoreN X22.here hx rfl (hb hby at_54) rfl (l' := #[.val (.int p1), .val (.int p2), .val (.ref b3), .val (.int ((p1 &&& (2147483647 : Int32)) % (6 : Int32))), .unset, .unset]) rfl ?_
    show Steps p.tables e below (T22.setTop (mkF m 55 #[.val (.int p1), .val (.int p2), .val (.ref b3), .val (.int ((p1 &&& (2147483647 : Int32)) % (6 : Int32))), .unset, .unset] [])) _
    refine XS.iloadN X22.here hx rfl (hb hby at_55) rfl ?_
    show Steps p.tables e below (T22.setTop (mkF m 56 #[.val (.int p1), .val (.int p2), .val (.ref b3), .val (.int ((p1 &&& (2147483647 : Int32)) % (6 : Int32))), .unset, .unset] [(.int p2)])) _
    refine X22.ldcInt hx hown (mvT hZ (hw _ (List.mem_of_getElem? (i := 16) rfl))) (g := (mkF m 56 #[.val (.int p1), .val (.int p2), .val (.ref b3), .val (.int ((p1 &&& (2147483647 : Int32)) % (6 : Int32))), .unset, .unset] [(.int p2)])) rfl (hb hby at_56) _ ?_
    show Steps p.tables e below (T22.setTop (mkF m 58 #[.val (.int p1), .val (.int p2), .val (.ref b3), .val (.int ((p1 &&& (2147483647 : Int32)) % (6 : Int32))), .unset, .unset] [(.int (2147483647 : Int32)), (.int p2)])) _
    refine XS.iand X22.here hx rfl (hb hby at_58) rfl ?_
    show Steps p.tables e below (T22.setTop (mkF m 59 #[.val (.int p1), .val (.int p2), .val (.ref b3), .val (.int ((p1 &&& (2147483647 : Int32)) % (6 : Int32))), .unset, .unset] [(.int (p2 &&& (2147483647 : Int32)))])) _
    refine XS.bipush X22.here hx rfl (hb hby at_59) ?_
    show Steps p.tables e below (T22.setTop (mkF m 61 #[.val (.int p1), .val (.int p2), .val (.ref b3), .val (.int ((p1 &&& (2147483647 : Int32)) % (6 : Int32))), .unset, .unset] [(.int (7 : Int32)), (.int (p2 &&& (2147483647 : Int32)))])) _
    refine Jvm.RoadKit.iremM X22 hx rfl (hb hby at_61) rfl (by decide) ?_
    show Steps p.tables e below (T22.setTop (mkF m 62 #[.val (.int p1), .val (.int p2), .val (.ref b3), .val (.int ((p1 &&& (2147483647 : Int32)) % (6 : Int32))), .unset, .unset] [(.int ((p2 &&& (2147483647 : Int32)) % (7 : Int32)))])) _
    refine XS.istore X22.here hx rfl (hb hby at_62) rfl (l' := #[.val (.int p1), .val (.int p2), .val (.ref b3), .val (.int ((p1 &&& (2147483647 : Int32)) % (6 : Int32))), .val (.int ((p2 &&& (2147483647 : Int32)) % (7 : Int32))), .unset]) rfl ?_
    show Steps p.tables e below (T22.setTop (mkF m 64 #[.val (.int p1), .val (.int p2), .val (.ref b3), .val (.int ((p1 &&& (2147483647 : Int32)) % (6 : Int32))), .val (.int ((p2 &&& (2147483647 : Int32)) % (7 : Int32))), .unset] [])) _
    refine XS.iload X22.here hx rfl (hb hby at_64) rfl ?_
    show Steps p.tables e below (T22.setTop (mkF m 66 #[.val (.int p1), .val (.int p2), .val (.ref b3), .val (.int ((p1 &&& (2147483647 : Int32)) % (6 : Int32))), .val (.int ((p2 &&& (2147483647 : Int32)) % (7 : Int32))), .unset] [(.int ((p2 &&& (2147483647 : Int32)) % (7 : Int32)))])) _
    refine XS.iloadN X22.here hx rfl (hb hby at_66) rfl ?_
    show Steps p.tables e below (T22.setTop (mkF m 67 #[.val (.int p1), .val (.int p2), .val (.ref b3), .val (.int ((p1 &&& (2147483647 : Int32)) % (6 : Int32))), .val (.int ((p2 &&& (2147483647 : Int32)) % (7 : Int32))), .unset] [(.int ((p1 &&& (2147483647 : Int32)) % (6 : Int32))), (.int ((p2 &&& (2147483647 : Int32)) % (7 : Int32)))])) _
    refine XS.icmpNo X22.here hx rfl (hb hby at_67) rfl (feq hc67).1 ?_
    show Steps p.tables e below (T22.setTop (mkF m 70 #[.val (.int p1), .val (.int p2), .val (.ref b3), .val (.int ((p1 &&& (2147483647 : Int32)) % (6 : Int32))), .val (.int ((p2 &&& (2147483647 : Int32)) % (7 : Int32))), .unset] [])) _
    refine XS.iloadN X22.here hx rfl (hb hby at_70) rfl ?_
    show Steps p.tables e below (T22.setTop (mkF m 71 #[.val (.int p1), .val (.int p2), .val (.ref b3), .val (.int ((p1 &&& (2147483647 : Int32)) % (6 : Int32))), .val (.int ((p2 &&& (2147483647 : Int32)) % (7 : Int32))), .unset] [(.int ((p1 &&& (2147483647 : Int32)) % (6 : Int32)))])) _
    refine XS.iconst X22.here hx rfl (hb hby at_71) ?_
    show Steps p.tables e below (T22.setTop (mkF m 72 #[.val (.int p1), .val (.int p2), .val (.ref b3), .val (.int ((p1 &&& (2147483647 : Int32)) % (6 : Int32))), .val (.int ((p2 &&& (2147483647 : Int32)) % (7 : Int32))), .unset] [(.int (1 : Int32)), (.int ((p1 &&& (2147483647 : Int32)) % (6 : Int32)))])) _
    refine XS.icmpYes X22.here hx rfl (pc0 := 72) (pc' := 80) rfl (hb hby at_72) rfl (feq hc72).2 (by decide) (by decide) ?_
    show Steps p.tables e below (T22.setTop (mkF m 80 #[.val (.int p1), .val (.int p2), .val (.ref b3), .val (.int ((p1 &&& (2147483647 : Int32)) % (6 : Int32))), .val (.int ((p2 &&& (2147483647 : Int32)) % (7 : Int32))), .unset] [])) _
    refine XS.iloadN X22.here hx rfl (hb hby at_80) rfl ?_
    show Steps p.tables e below (T22.setTop (mkF m 81 #[.val (.int p1), .val (.int p2), .val (.ref b3), .val (.int ((p1 &&& (2147483647 : Int32)) % (6 : Int32))), .val (.int ((p2 &&& (2147483647 : Int32)) % (7 : Int32))), .unset] [(.int ((p1 &&& (2147483647 : Int32)) % (6 : Int32)))])) _
    refine XS.iconst X22.here hx rfl (hb hby at_81) ?_
    show Steps p.tables e below (T22.setTop (mkF m 82 #[.val (.int p1), .val (.int p2), .val (.ref b3), .val (.int ((p1 &&& (2147483647 : Int32)) % (6 : Int32))), .val (.int ((p2 &&& (2147483647 : Int32)) % (7 : Int32))), .unset] [(.int (4 : Int32)), (.int ((p1 &&& (2147483647 : Int32)) % (6 : Int32)))])) _
    refine XS.icmpNo X22.here hx rfl (hb hby at_82) rfl (teq hc82).2 ?_
    show Steps p.tables e below (T22.setTop (mkF m 85 #[.val (.int p1), .val (.int p2), .val (.ref b3), .val (.int ((p1 &&& (2147483647 : Int32)) % (6 : Int32))), .val (.int ((p2 &&& (2147483647 : Int32)) % (7 : Int32))), .unset] [])) _
    refine XS.iload X22.here hx rfl (hb hby at_85) rfl ?_
    show Steps p.tables e below (T22.setTop (mkF m 87 #[.val (.int p1), .val (.int p2), .val (.ref b3), .val (.int ((p1 &&& (2147483647 : Int32)) % (6 : Int32))), .val (.int ((p2 &&& (2147483647 : Int32)) % (7 : Int32))), .unset] [(.int ((p2 &&& (2147483647 : Int32)) % (7 : Int32)))])) _
    refine XS.iconst X22.here hx rfl (hb hby at_87) ?_
    show Steps p.tables e below (T22.setTop (mkF m 88 #[.val (.int p1), .val (.int p2), .val (.ref b3), .val (.int ((p1 &&& (2147483647 : Int32)) % (6 : Int32))), .val (.int ((p2 &&& (2147483647 : Int32)) % (7 : Int32))), .unset] [(.int (3 : Int32)), (.int ((p2 &&& (2147483647 : Int32)) % (7 : Int32)))])) _
    refine XS.icmpYes X22.here hx rfl (pc0 := 88) (pc' := 95) rfl (hb hby at_88) rfl (feq hc88).2 (by decide) (by decide) ?_
    show Steps p.tables e below (T22.setTop (mkF m 95 #[.val (.int p1), .val (.int p2), .val (.ref b3), .val (.int ((p1 &&& (2147483647 : Int32)) % (6 : Int32))), .val (.int ((p2 &&& (2147483647 : Int32)) % (7 : Int32))), .unset] [])) _
    refine XS.iconst X22.here hx rfl (hb hby at_95) ?_
    show Steps p.tables e below (T22.setTop (mkF m 96 #[.val (.int p1), .val (.int p2), .val (.ref b3), .val (.int ((p1 &&& (2147483647 : Int32)) % (6 : Int32))), .val (.int ((p2 &&& (2147483647 : Int32)) % (7 : Int32))), .unset] [(.int (0 : Int32))])) _
    refine XS.istore X22.here hx rfl (hb hby at_96) rfl (l' := #[.val (.int p1), .val (.int p2), .val (.ref b3), .val (.int ((p1 &&& (2147483647 : Int32)) % (6 : Int32))), .val (.int ((p2 &&& (2147483647 : Int32)) % (7 : Int32))), .val (.int (0 : Int32))]) rfl ?_
    show Steps p.tables e below (T22.setTop (mkF m 98 #[.val (.int p1), .val (.int p2), .val (.ref b3), .val (.int ((p1 &&& (2147483647 : Int32)) % (6 : Int32))), .val (.int ((p2 &&& (2147483647 : Int32)) % (7 : Int32))), .val (.int (0 : Int32))] [])) _
    refine XS.aloadN X22.here hx rfl (hb hby at_98) rfl rfl ?_
    show Steps p.tables e below (T22.setTop (mkF m 99 #[.val (.int p1), .val (.int p2), .val (.ref b3), .val (.int ((p1 &&& (2147483647 : Int32)) % (6 : Int32))), .val (.int ((p2 &&& (2147483647 : Int32)) % (7 : Int32))), .val (.int (0 : Int32))] [(.ref b3)])) _
    refine XS.iloadN X22.here hx rfl (hb hby at_99) rfl ?_
    show Steps p.tables e below (T22.setTop (mkF m 100 #[.val (.int p1), .val (.int p2), .val (.ref b3), .val (.int ((p1 &&& (2147483647 : Int32)) % (6 : Int32))), .val (.int ((p2 &&& (2147483647 : Int32)) % (7 : Int32))), .val (.int (0 : Int32))] [(.int ((p1 &&& (2147483647 : Int32)) % (6 : Int32))), (.ref b3)])) _
    refine X22.aaload hx (j := ((p1 &&& (2147483647 : Int32)) % (6 : Int32))) (v := (.ref w23)) (by rw [e22]; exact Ar_b3_100.1) (State.isArrayOf_alike hZ.alike Ar_b3_100.2.1) rfl Ar_b3_100.2.2 hin100 hat100 (g := (mkF m 100 #[.val (.int p1), .val (.int p2), .val (.ref b3), .val (.int ((p1 &&& (2147483647 : Int32)) % (6 : Int32))), .val (.int ((p2 &&& (2147483647 : Int32)) % (7 : Int32))), .val (.int (0 : Int32))] [(.int ((p1 &&& (2147483647 : Int32)) % (6 : Int32))), (.ref b3)])) rfl rfl (hb hby at_100) _ ?_
    show Steps p.tables e below (T22.setTop (mkF m 101 #[.val (.int p1), .val (.int p2), .val (.ref b3), .val (.int ((p1 &&& (2147483647 : Int32)) % (6 : Int32))), .val (.int ((p2 &&& (2147483647 : Int32)) % (7 : Int32))), .val (.int (0 : Int32))] [(.ref w23)])) _
    refine XS.aloadN X22.here hx rfl (hb hby at_101) rfl rfl ?_
    show Steps p.tables e below (T22.setTop (mkF m 102 #[.val (.int p1), .val (.int p2), .val (.ref b3), .val (.int ((p1 &&& (2147483647 : Int32)) % (6 : Int32))), .val (.int ((p2 &&& (2147483647 : Int32)) % (7 : Int32))), .val (.int (0 : Int32))] [(.ref b3), (.ref w23)])) _
    refine XS.iload X22.here hx rfl (hb hby at_102) rfl ?_
    show Steps p.tables e below (T22.setTop (mkF m 104 #[.val (.int p1), .val (.int p2), .val (.ref b3), .val (.int ((p1 &&& (2147483647 : Int32)) % (6 : Int32))), .val (.int ((p2 &&& (2147483647 : Int32)) % (7 : Int32))), .val (.int (0 : Int32))] [(.int ((p2 &&& (2147483647 : Int32)) % (7 : Int32))), (.ref b3), (.ref w23)])) _
    refine X22.aaload hx (j := ((p2 &&& (2147483647 : Int32)) % (7 : Int32))) (v := .null) (by rw [e22]; exact Ar_b3_104.1) (State.isArrayOf_alike hZ.alike Ar_b3_104.2.1) rfl Ar_b3_104.2.2 hin104 hat104 (g := (mkF m 104 #[.val (.int p1), .val (.int p2), .val (.ref b3), .val (.int ((p1 &&& (2147483647 : Int32)) % (6 : Int32))), .val (.int ((p2 &&& (2147483647 : Int32)) % (7 : Int32))), .val (.int (0 : Int32))] [(.int ((p2 &&& (2147483647 : Int32)) % (7 : Int32))), (.ref b3), (.ref w23)])) rfl rfl (hb hby at_104) _ ?_
    show Steps p.tables e below (T22.setTop (mkF m 105 #[.val (.int p1), .val (.int p2), .val (.ref b3), .val (.int ((p1 &&& (2147483647 : Int32)) % (6 : Int32))), .val (.int ((p2 &&& (2147483647 : Int32)) % (7 : Int32))), .val (.int (0 : Int32))] [.null, (.ref w23)])) _
    refine st25.trans ?_
    show Steps p.tables e below (T25.setTop (mkF m 108 #[.val (.int p1), .val (.int p2), .val (.ref b3), .val (.int ((p1 &&& (2147483647 : Int32)) % (6 : Int32))), .val (.int ((p2 &&& (2147483647 : Int32)) % (7 : Int32))), .val (.int (0 : Int32))] [(.int r25)])) _
    refine XS.iload X25.here hx rfl (hb hby at_108) rfl ?_
    show Steps p.tables e below (T25.setTop (mkF m 110 #[.val (.int p1), .val (.int p2), .val (.ref b3), .val (.int ((p1 &&& (2147483647 : Int32)) % (6 : Int32))), .val (.int ((p2 &&& (2147483647 : Int32)) % (7 : Int32))), .val (.int (0 : Int32))] [(.int (0 : Int32)), (.int r25)])) _
    refine XS.icmpNo X25.here hx rfl (hb hby at_110) rfl (teq hx1).2 ?_
    show Steps p.tables e below (T25.setTop (mkF m 113 #[.val (.int p1), .val (.int p2), .val (.ref b3), .val (.int ((p1 &&& (2147483647 : Int32)) % (6 : Int32))), .val (.int ((p2 &&& (2147483647 : Int32)) % (7 : Int32))), .val (.int (0 : Int32))] [])) _
    refine XS.iconst X25.here hx rfl (hb hby at_113) ?_
    show Steps p.tables e below (T25.setTop (mkF m 114 #[.val (.int p1), .val (.int p2), .val (.ref b3), .val (.int ((p1 &&& (2147483647 : Int32)) % (6 : Int32))), .val (.int ((p2 &&& (2147483647 : Int32)) % (7 : Int32))), .val (.int (0 : Int32))] [(.int (1 : Int32))])) _
    refine XS.goto X25.here hx rfl (pc0 := 114) (pc' := 118) rfl (hb hby at_114) (by decide) (by decide) ?_
    show Steps p.tables e below (T25.setTop (mkF m 118 #[.val (.int p1), .val (.int p2), .val (.ref b3), .val (.int ((p1 &&& (2147483647 : Int32)) % (6 : Int32))), .val (.int ((p2 &&& (2147483647 : Int32)) % (7 : Int32))), .val (.int (0 : Int32))] [(.int (1 : Int32))])) _
    exact retN X25 hx (t := .boolean) Bd.returns (by simp) (hb hby at_118) hr
  · show Q0_n_ftftf Z p1 p2 w4 w7 w10 w13 w16 w19 w23 h0 n0 _ T25.heap _
    exact ⟨rfl, N25⟩
set_option maxRecDepth 65536 in
set_option maxHeartbeats 40000000 in
theorem comes_1 {Post : Tables → Env → Array Value → State → Outcome → State → Prop} (hpost : ∀ tb e args s v u, (limb_1_1.after args s (.returned v) u = true ∧ limb_1_2.after args s (.returned v) u = true ∧ True) → FrameEnd s (.returned v) u (Jvm.fieldLocs frame_1_writes args s ++ Jvm.arrayLocs frame_1_arrays args s ++ Jvm.staticLocs frame_1_statics s) 16 128 → Post tb e args s (.returned v) u) :
    ArmFor flags0 classFile x code maxLocals ret World_1 tables_1 room_1 Calls_1 rest_1 Pre_1 Post := by
  intro l hfl _ _ p e ha hc hk s m args below hf hA hF happ hP
  obtain ⟨hcalls, hrest, hpre⟩ := hP
  obtain ⟨-, -, -, hnamed, -, -, -, hat⟩ := (Spec.applies_iff hf).mp happ
  obtain ⟨hg, hn⟩ := and_e (Cond.before_iff.mp (show (Jvm.Cond.and given_1 narrow_1).before args s = true from hpre))
  obtain ⟨g0, hg⟩ := and_e hg
  obtain ⟨g1, hg⟩ := and_e hg
  have g2 := hg
  obtain ⟨w0, w1, rfl⟩ : ∃ w0 w1 : Value, args = #[w0, w1] := by
    have hs : args.size = 2 := by simpa [Cond.value, given_1] using g0
    obtain ⟨L⟩ := args
    match L, hs with
    | [w0, w1], _ => exact ⟨w0, w1, rfl⟩
  obtain ⟨i0, ei0⟩ := is_v g1
  obtain rfl : w0 = (.int i0) := Option.some.inj ei0
  obtain ⟨i1, ei1⟩ := is_v g2
  obtain rfl : w1 = (.int i1) := Option.some.inj ei1
  have hw := fun d (hd : d ∈ tables_1) => atoms_spec (ws := Jvm.Cond.code x code maxLocals ret :: tables_1) hat d (List.mem_cons_of_mem _ hd)
  obtain ⟨c0, hn⟩ := and_e hn
  obtain ⟨c1, hn⟩ := and_e hn
  obtain ⟨c2, hn⟩ := and_e hn
  obtain ⟨c3, hn⟩ := and_e hn
  obtain ⟨c4, hn⟩ := and_e hn
  obtain ⟨c5, hn⟩ := and_e hn
  obtain ⟨c6, hn⟩ := and_e hn
  obtain ⟨c7, hn⟩ := and_e hn
  obtain ⟨c8, hn⟩ := and_e hn
  obtain ⟨c9, hn⟩ := and_e hn
  obtain ⟨c10, hn⟩ := and_e hn
  obtain ⟨c11, hn⟩ := and_e hn
  obtain ⟨c12, hn⟩ := and_e hn
  obtain ⟨c13, hn⟩ := and_e hn
  obtain ⟨c14, hn⟩ := and_e hn
  obtain ⟨c15, hn⟩ := and_e hn
  obtain ⟨c16, hn⟩ := and_e hn
  have c17 := hn
  obtain ⟨w_BIGINT, ev_BIGINT⟩ := exa_v c0
  have E_BIGINT := Exa.start ev_BIGINT c0
  have S_BIGINT := Sta.start ev_BIGINT (Or.inr ⟨(hw _ (List.mem_of_getElem? (i := 3) rfl)), (hw _ (List.mem_of_getElem? (i := 4) rfl))⟩)
  obtain ⟨w_DOUBLE, ev_DOUBLE⟩ := exa_v c1
  have E_DOUBLE := Exa.start ev_DOUBLE c1
  have S_DOUBLE := Sta.start ev_DOUBLE (Or.inr ⟨(hw _ (List.mem_of_getElem? (i := 3) rfl)), (hw _ (List.mem_of_getElem? (i := 7) rfl))⟩)
  obtain ⟨w_VARCHAR, ev_VARCHAR⟩ := exa_v c2
  have E_VARCHAR := Exa.start ev_VARCHAR c2
  have S_VARCHAR := Sta.start ev_VARCHAR (Or.inr ⟨(hw _ (List.mem_of_getElem? (i := 3) rfl)), (hw _ (List.mem_of_getElem? (i := 9) rfl))⟩)
  obtain ⟨w_BIGINT_ARRAY, ev_BIGINT_ARRAY⟩ := exa_v c3
  have E_BIGINT_ARRAY := Exa.start ev_BIGINT_ARRAY c3
  have S_BIGINT_ARRAY := Sta.start ev_BIGINT_ARRAY (Or.inr ⟨(hw _ (List.mem_of_getElem? (i := 3) rfl)), (hw _ (List.mem_of_getElem? (i := 11) rfl))⟩)
  obtain ⟨w_DOUBLE_ARRAY, ev_DOUBLE_ARRAY⟩ := exa_v c4
  have E_DOUBLE_ARRAY := Exa.start ev_DOUBLE_ARRAY c4
  have S_DOUBLE_ARRAY := Sta.start ev_DOUBLE_ARRAY (Or.inr ⟨(hw _ (List.mem_of_getElem? (i := 3) rfl)), (hw _ (List.mem_of_getElem? (i := 13) rfl))⟩)
  obtain ⟨w_VARCHAR_ARRAY, ev_VARCHAR_ARRAY⟩ := exa_v c5
  have E_VARCHAR_ARRAY := Exa.start ev_VARCHAR_ARRAY c5
  have S_VARCHAR_ARRAY := Sta.start ev_VARCHAR_ARRAY (Or.inr ⟨(hw _ (List.mem_of_getElem? (i := 3) rfl)), (hw _ (List.mem_of_getElem? (i := 15) rfl))⟩)
  have F_BIGINT_ARRAY_ordinal := own_fldI ev_BIGINT_ARRAY c6
  have F_BIGINT_ordinal := own_fldI ev_BIGINT c7
  have F_DOUBLE_ordinal := own_fldI ev_DOUBLE c8
  have F_BIGINT_element := own_fldN ev_BIGINT c9
  have F_VARCHAR_ordinal := own_fldI ev_VARCHAR c10
  have F_VARCHAR_element := own_fldN ev_VARCHAR c11
  have F_VARCHAR_ARRAY_ordinal := own_fldI ev_VARCHAR_ARRAY c12
  have F_DOUBLE_ARRAY_ordinal := own_fldI ev_DOUBLE_ARRAY c13
  have F_DOUBLE_ARRAY_element := own_fldR ev_DOUBLE_ARRAY ev_DOUBLE c14
  have F_DOUBLE_element := own_fldN ev_DOUBLE c15
  have F_VARCHAR_ARRAY_element := own_fldR ev_VARCHAR_ARRAY ev_VARCHAR c16
  have F_BIGINT_ARRAY_element := own_fldR ev_BIGINT_ARRAY ev_BIGINT c17
  have key : MetFree l x (head1 (Jvm.Cond.code x code maxLocals ret :: tables_1) room_1) (fun a U => a = #[(.int i0), (.int i1)] ∧ s.Warmed39 U.vm ∧ U.heap = s.heap) (fun _ _ _ _ _ => True) (fun _ U o U' => ∃ v L, o = .returned v ∧ (v = some (.int (1 : Int32)) ∧ Fr s.heap.size L) ∧ FrameEnd U o U' L room_1.cells room_1.slots) := by
    rcases own_k i0 with hv | hv | hv | hv | hv | hv
    · rcases own_j i1 with hj | hj | hj | hj | hj | hj | hj
      · exact rm0_tf l s _ hw tables_1 i0 i1 w_BIGINT w_DOUBLE w_VARCHAR w_BIGINT_ARRAY w_DOUBLE_ARRAY w_VARCHAR_ARRAY w_BIGINT w_BIGINT (1 : Int32) s.heap s.heap.size (Nat.le_refl _) S_BIGINT S_DOUBLE S_VARCHAR S_BIGINT_ARRAY S_DOUBLE_ARRAY S_VARCHAR_ARRAY E_BIGINT (by rw [hv] <;> rw [hj] <;> decide) E_BIGINT E_DOUBLE E_VARCHAR E_BIGINT_ARRAY E_DOUBLE_ARRAY E_VARCHAR_ARRAY (by rw [hv] <;> decide) (by rw [hv] <;> rfl) (by rw [hj] <;> decide) (by rw [hj] <;> rfl) (Or.inl ⟨rfl, rfl⟩) (by decide)
      · exact rm0_fttf l s _ hw tables_1 i0 i1 w_BIGINT w_DOUBLE w_VARCHAR w_BIGINT_ARRAY w_DOUBLE_ARRAY w_VARCHAR_ARRAY w_BIGINT w_DOUBLE (0 : Int32) s.heap s.heap.size (Nat.le_refl _) S_BIGINT S_DOUBLE S_VARCHAR S_BIGINT_ARRAY S_DOUBLE_ARRAY S_VARCHAR_ARRAY E_BIGINT (by rw [hv] <;> rw [hj] <;> decide) (by rw [hv] <;> decide) (by rw [hv] <;> decide) E_BIGINT E_DOUBLE E_VARCHAR E_BIGINT_ARRAY E_DOUBLE_ARRAY E_VARCHAR_ARRAY (by rw [hv] <;> decide) (by rw [hv] <;> rfl) (by rw [hj] <;> decide) (by rw [hj] <;> rfl) (Or.inr (Or.inr (Or.inl ⟨w_DOUBLE, (0 : Int32), S_DOUBLE, E_BIGINT, (Fld.ne F_DOUBLE_ordinal F_BIGINT_ordinal (by decide)), (Fld.ne F_BIGINT_ordinal F_DOUBLE_ordinal (by decide)), (Or.inr ⟨F_BIGINT_element, rfl⟩), (by decide), rfl⟩))) (by decide)
      · exact rm0_fttf l s _ hw tables_1 i0 i1 w_BIGINT w_DOUBLE w_VARCHAR w_BIGINT_ARRAY w_DOUBLE_ARRAY w_VARCHAR_ARRAY w_BIGINT w_VARCHAR (0 : Int32) s.heap s.heap.size (Nat.le_refl _) S_BIGINT S_DOUBLE S_VARCHAR S_BIGINT_ARRAY S_DOUBLE_ARRAY S_VARCHAR_ARRAY E_BIGINT (by rw [hv] <;> rw [hj] <;> decide) (by rw [hv] <;> decide) (by rw [hv] <;> decide) E_BIGINT E_DOUBLE E_VARCHAR E_BIGINT_ARRAY E_DOUBLE_ARRAY E_VARCHAR_ARRAY (by rw [hv] <;> decide) (by rw [hv] <;> rfl) (by rw [hj] <;> decide) (by rw [hj] <;> rfl) (Or.inr (Or.inr (Or.inl ⟨w_DOUBLE, (0 : Int32), S_DOUBLE, E_BIGINT, (Fld.ne F_VARCHAR_ordinal F_BIGINT_ordinal (by decide)), (Fld.ne F_BIGINT_ordinal F_DOUBLE_ordinal (by decide)), (Or.inr ⟨F_BIGINT_element, rfl⟩), (by decide), rfl⟩))) (by decide)
      · exact rm0_fttf l s _ hw tables_1 i0 i1 w_BIGINT w_DOUBLE w_VARCHAR w_BIGINT_ARRAY w_DOUBLE_ARRAY w_VARCHAR_ARRAY w_BIGINT w_BIGINT_ARRAY (0 : Int32) s.heap s.heap.size (Nat.le_refl _) S_BIGINT S_DOUBLE S_VARCHAR S_BIGINT_ARRAY S_DOUBLE_ARRAY S_VARCHAR_ARRAY E_BIGINT (by rw [hv] <;> rw [hj] <;> decide) (by rw [hv] <;> decide) (by rw [hv] <;> decide) E_BIGINT E_DOUBLE E_VARCHAR E_BIGINT_ARRAY E_DOUBLE_ARRAY E_VARCHAR_ARRAY (by rw [hv] <;> decide) (by rw [hv] <;> rfl) (by rw [hj] <;> decide) (by rw [hj] <;> rfl) (Or.inr (Or.inr (Or.inl ⟨w_DOUBLE, (0 : Int32), S_DOUBLE, E_BIGINT, (Fld.ne F_BIGINT_ARRAY_ordinal F_BIGINT_ordinal (by decide)), (Fld.ne F_BIGINT_ordinal F_DOUBLE_ordinal (by decide)), (Or.inr ⟨F_BIGINT_element, rfl⟩), (by decide), rfl⟩))) (by decide)
      · exact rm0_fttf l s _ hw tables_1 i0 i1 w_BIGINT w_DOUBLE w_VARCHAR w_BIGINT_ARRAY w_DOUBLE_ARRAY w_VARCHAR_ARRAY w_BIGINT w_DOUBLE_ARRAY (0 : Int32) s.heap s.heap.size (Nat.le_refl _) S_BIGINT S_DOUBLE S_VARCHAR S_BIGINT_ARRAY S_DOUBLE_ARRAY S_VARCHAR_ARRAY E_BIGINT (by rw [hv] <;> rw [hj] <;> decide) (by rw [hv] <;> decide) (by rw [hv] <;> decide) E_BIGINT E_DOUBLE E_VARCHAR E_BIGINT_ARRAY E_DOUBLE_ARRAY E_VARCHAR_ARRAY (by rw [hv] <;> decide) (by rw [hv] <;> rfl) (by rw [hj] <;> decide) (by rw [hj] <;> rfl) (Or.inr (Or.inr (Or.inl ⟨w_DOUBLE, (0 : Int32), S_DOUBLE, E_BIGINT, (Fld.ne F_DOUBLE_ARRAY_ordinal F_BIGINT_ordinal (by decide)), (Fld.ne F_BIGINT_ordinal F_DOUBLE_ordinal (by decide)), (Or.inr ⟨F_BIGINT_element, rfl⟩), (by decide), rfl⟩))) (by decide)
      · exact rm0_fttf l s _ hw tables_1 i0 i1 w_BIGINT w_DOUBLE w_VARCHAR w_BIGINT_ARRAY w_DOUBLE_ARRAY w_VARCHAR_ARRAY w_BIGINT w_VARCHAR_ARRAY (0 : Int32) s.heap s.heap.size (Nat.le_refl _) S_BIGINT S_DOUBLE S_VARCHAR S_BIGINT_ARRAY S_DOUBLE_ARRAY S_VARCHAR_ARRAY E_BIGINT (by rw [hv] <;> rw [hj] <;> decide) (by rw [hv] <;> decide) (by rw [hv] <;> decide) E_BIGINT E_DOUBLE E_VARCHAR E_BIGINT_ARRAY E_DOUBLE_ARRAY E_VARCHAR_ARRAY (by rw [hv] <;> decide) (by rw [hv] <;> rfl) (by rw [hj] <;> decide) (by rw [hj] <;> rfl) (Or.inr (Or.inr (Or.inl ⟨w_DOUBLE, (0 : Int32), S_DOUBLE, E_BIGINT, (Fld.ne F_VARCHAR_ARRAY_ordinal F_BIGINT_ordinal (by decide)), (Fld.ne F_BIGINT_ordinal F_DOUBLE_ordinal (by decide)), (Or.inr ⟨F_BIGINT_element, rfl⟩), (by decide), rfl⟩))) (by decide)
      · exact rm0_n_fttf l s _ hw tables_1 i0 i1 w_BIGINT w_DOUBLE w_VARCHAR w_BIGINT_ARRAY w_DOUBLE_ARRAY w_VARCHAR_ARRAY w_BIGINT (0 : Int32) s.heap s.heap.size (Nat.le_refl _) S_BIGINT S_DOUBLE S_VARCHAR S_BIGINT_ARRAY S_DOUBLE_ARRAY S_VARCHAR_ARRAY E_BIGINT (by rw [hv] <;> rw [hj] <;> decide) (by rw [hv] <;> decide) (by rw [hv] <;> decide) E_BIGINT E_DOUBLE E_VARCHAR E_BIGINT_ARRAY E_DOUBLE_ARRAY E_VARCHAR_ARRAY (by rw [hv] <;> decide) (by rw [hv] <;> rfl) (by rw [hj] <;> decide) (by rw [hj] <;> rfl) (Or.inl ⟨w_DOUBLE, (0 : Int32), S_DOUBLE, E_BIGINT, (Fld.ne F_BIGINT_ordinal F_DOUBLE_ordinal (by decide)), (Or.inr ⟨F_BIGINT_element, rfl⟩), (by decide), rfl⟩) (by decide)
    · rcases own_j i1 with hj | hj | hj | hj | hj | hj | hj
      · exact rm0_fftf l s _ hw tables_1 i0 i1 w_BIGINT w_DOUBLE w_VARCHAR w_BIGINT_ARRAY w_DOUBLE_ARRAY w_VARCHAR_ARRAY w_DOUBLE w_BIGINT (1 : Int32) s.heap s.heap.size (Nat.le_refl _) S_BIGINT S_DOUBLE S_VARCHAR S_BIGINT_ARRAY S_DOUBLE_ARRAY S_VARCHAR_ARRAY E_DOUBLE (by rw [hv] <;> rw [hj] <;> decide) (by rw [hv] <;> decide) (by rw [hj] <;> decide) E_BIGINT E_DOUBLE E_VARCHAR E_BIGINT_ARRAY E_DOUBLE_ARRAY E_VARCHAR_ARRAY (by rw [hv] <;> decide) (by rw [hv] <;> rfl) (by rw [hj] <;> decide) (by rw [hj] <;> rfl) (Or.inr (Or.inl ⟨w_DOUBLE, w_BIGINT, S_DOUBLE, S_BIGINT, (Fld.ne F_BIGINT_ordinal F_DOUBLE_ordinal (by decide)), rfl, rfl, rfl⟩)) (by decide)
      · exact rm0_tf l s _ hw tables_1 i0 i1 w_BIGINT w_DOUBLE w_VARCHAR w_BIGINT_ARRAY w_DOUBLE_ARRAY w_VARCHAR_ARRAY w_DOUBLE w_DOUBLE (1 : Int32) s.heap s.heap.size (Nat.le_refl _) S_BIGINT S_DOUBLE S_VARCHAR S_BIGINT_ARRAY S_DOUBLE_ARRAY S_VARCHAR_ARRAY E_DOUBLE (by rw [hv] <;> rw [hj] <;> decide) E_BIGINT E_DOUBLE E_VARCHAR E_BIGINT_ARRAY E_DOUBLE_ARRAY E_VARCHAR_ARRAY (by rw [hv] <;> decide) (by rw [hv] <;> rfl) (by rw [hj] <;> decide) (by rw [hj] <;> rfl) (Or.inl ⟨rfl, rfl⟩) (by decide)
      · exact rm0_ffftf l s _ hw tables_1 i0 i1 w_BIGINT w_DOUBLE w_VARCHAR w_BIGINT_ARRAY w_DOUBLE_ARRAY w_VARCHAR_ARRAY w_DOUBLE w_VARCHAR (0 : Int32) s.heap s.heap.size (Nat.le_refl _) S_BIGINT S_DOUBLE S_VARCHAR S_BIGINT_ARRAY S_DOUBLE_ARRAY S_VARCHAR_ARRAY E_DOUBLE (by rw [hv] <;> rw [hj] <;> decide) (by rw [hv] <;> decide) (by rw [hj] <;> decide) (by rw [hv] <;> decide) E_BIGINT E_DOUBLE E_VARCHAR E_BIGINT_ARRAY E_DOUBLE_ARRAY E_VARCHAR_ARRAY (by rw [hv] <;> decide) (by rw [hv] <;> rfl) (by rw [hj] <;> decide) (by rw [hj] <;> rfl) (Or.inr (Or.inr (Or.inr (Or.inl ⟨w_DOUBLE, w_BIGINT, (0 : Int32), S_DOUBLE, S_BIGINT, E_DOUBLE, (Fld.ne F_VARCHAR_ordinal F_DOUBLE_ordinal (by decide)), rfl, (Fld.ne F_VARCHAR_ordinal F_BIGINT_ordinal (by decide)), (Or.inr ⟨F_DOUBLE_element, rfl⟩), (by decide), rfl⟩)))) (by decide)
      · exact rm0_ffftf l s _ hw tables_1 i0 i1 w_BIGINT w_DOUBLE w_VARCHAR w_BIGINT_ARRAY w_DOUBLE_ARRAY w_VARCHAR_ARRAY w_DOUBLE w_BIGINT_ARRAY (0 : Int32) s.heap s.heap.size (Nat.le_refl _) S_BIGINT S_DOUBLE S_VARCHAR S_BIGINT_ARRAY S_DOUBLE_ARRAY S_VARCHAR_ARRAY E_DOUBLE (by rw [hv] <;> rw [hj] <;> decide) (by rw [hv] <;> decide) (by rw [hj] <;> decide) (by rw [hv] <;> decide) E_BIGINT E_DOUBLE E_VARCHAR E_BIGINT_ARRAY E_DOUBLE_ARRAY E_VARCHAR_ARRAY (by rw [hv] <;> decide) (by rw [hv] <;> rfl) (by rw [hj] <;> decide) (by rw [hj] <;> rfl) (Or.inr (Or.inr (Or.inr (Or.inl ⟨w_DOUBLE, w_BIGINT, (0 : Int32), S_DOUBLE, S_BIGINT, E_DOUBLE, (Fld.ne F_BIGINT_ARRAY_ordinal F_DOUBLE_ordinal (by decide)), rfl, (Fld.ne F_BIGINT_ARRAY_ordinal F_BIGINT_ordinal (by decide)), (Or.inr ⟨F_DOUBLE_element, rfl⟩), (by decide), rfl⟩)))) (by decide)
      · exact rm0_ffftf l s _ hw tables_1 i0 i1 w_BIGINT w_DOUBLE w_VARCHAR w_BIGINT_ARRAY w_DOUBLE_ARRAY w_VARCHAR_ARRAY w_DOUBLE w_DOUBLE_ARRAY (0 : Int32) s.heap s.heap.size (Nat.le_refl _) S_BIGINT S_DOUBLE S_VARCHAR S_BIGINT_ARRAY S_DOUBLE_ARRAY S_VARCHAR_ARRAY E_DOUBLE (by rw [hv] <;> rw [hj] <;> decide) (by rw [hv] <;> decide) (by rw [hj] <;> decide) (by rw [hv] <;> decide) E_BIGINT E_DOUBLE E_VARCHAR E_BIGINT_ARRAY E_DOUBLE_ARRAY E_VARCHAR_ARRAY (by rw [hv] <;> decide) (by rw [hv] <;> rfl) (by rw [hj] <;> decide) (by rw [hj] <;> rfl) (Or.inr (Or.inr (Or.inr (Or.inl ⟨w_DOUBLE, w_BIGINT, (0 : Int32), S_DOUBLE, S_BIGINT, E_DOUBLE, (Fld.ne F_DOUBLE_ARRAY_ordinal F_DOUBLE_ordinal (by decide)), rfl, (Fld.ne F_DOUBLE_ARRAY_ordinal F_BIGINT_ordinal (by decide)), (Or.inr ⟨F_DOUBLE_element, rfl⟩), (by decide), rfl⟩)))) (by decide)
      · exact rm0_ffftf l s _ hw tables_1 i0 i1 w_BIGINT w_DOUBLE w_VARCHAR w_BIGINT_ARRAY w_DOUBLE_ARRAY w_VARCHAR_ARRAY w_DOUBLE w_VARCHAR_ARRAY (0 : Int32) s.heap s.heap.size (Nat.le_refl _) S_BIGINT S_DOUBLE S_VARCHAR S_BIGINT_ARRAY S_DOUBLE_ARRAY S_VARCHAR_ARRAY E_DOUBLE (by rw [hv] <;> rw [hj] <;> decide) (by rw [hv] <;> decide) (by rw [hj] <;> decide) (by rw [hv] <;> decide) E_BIGINT E_DOUBLE E_VARCHAR E_BIGINT_ARRAY E_DOUBLE_ARRAY E_VARCHAR_ARRAY (by rw [hv] <;> decide) (by rw [hv] <;> rfl) (by rw [hj] <;> decide) (by rw [hj] <;> rfl) (Or.inr (Or.inr (Or.inr (Or.inl ⟨w_DOUBLE, w_BIGINT, (0 : Int32), S_DOUBLE, S_BIGINT, E_DOUBLE, (Fld.ne F_VARCHAR_ARRAY_ordinal F_DOUBLE_ordinal (by decide)), rfl, (Fld.ne F_VARCHAR_ARRAY_ordinal F_BIGINT_ordinal (by decide)), (Or.inr ⟨F_DOUBLE_element, rfl⟩), (by decide), rfl⟩)))) (by decide)
      · exact rm0_n_ffftf l s _ hw tables_1 i0 i1 w_BIGINT w_DOUBLE w_VARCHAR w_BIGINT_ARRAY w_DOUBLE_ARRAY w_VARCHAR_ARRAY w_DOUBLE (0 : Int32) s.heap s.heap.size (Nat.le_refl _) S_BIGINT S_DOUBLE S_VARCHAR S_BIGINT_ARRAY S_DOUBLE_ARRAY S_VARCHAR_ARRAY E_DOUBLE (by rw [hv] <;> rw [hj] <;> decide) (by rw [hv] <;> decide) (by rw [hj] <;> decide) (by rw [hv] <;> decide) E_BIGINT E_DOUBLE E_VARCHAR E_BIGINT_ARRAY E_DOUBLE_ARRAY E_VARCHAR_ARRAY (by rw [hv] <;> decide) (by rw [hv] <;> rfl) (by rw [hj] <;> decide) (by rw [hj] <;> rfl) (Or.inr (Or.inl ⟨w_DOUBLE, w_BIGINT, (0 : Int32), S_DOUBLE, S_BIGINT, E_DOUBLE, rfl, (Or.inr ⟨F_DOUBLE_element, rfl⟩), (by decide), rfl⟩)) (by decide)
    · rcases own_j i1 with hj | hj | hj | hj | hj | hj | hj
      · exact rm0_fttf l s _ hw tables_1 i0 i1 w_BIGINT w_DOUBLE w_VARCHAR w_BIGINT_ARRAY w_DOUBLE_ARRAY w_VARCHAR_ARRAY w_VARCHAR w_BIGINT (0 : Int32) s.heap s.heap.size (Nat.le_refl _) S_BIGINT S_DOUBLE S_VARCHAR S_BIGINT_ARRAY S_DOUBLE_ARRAY S_VARCHAR_ARRAY E_VARCHAR (by rw [hv] <;> rw [hj] <;> decide) (by rw [hv] <;> decide) (by rw [hv] <;> decide) E_BIGINT E_DOUBLE E_VARCHAR E_BIGINT_ARRAY E_DOUBLE_ARRAY E_VARCHAR_ARRAY (by rw [hv] <;> decide) (by rw [hv] <;> rfl) (by rw [hj] <;> decide) (by rw [hj] <;> rfl) (Or.inr (Or.inr (Or.inl ⟨w_DOUBLE, (0 : Int32), S_DOUBLE, E_VARCHAR, (Fld.ne F_BIGINT_ordinal F_VARCHAR_ordinal (by decide)), (Fld.ne F_VARCHAR_ordinal F_DOUBLE_ordinal (by decide)), (Or.inr ⟨F_VARCHAR_element, rfl⟩), (by decide), rfl⟩))) (by decide)
      · exact rm0_fttf l s _ hw tables_1 i0 i1 w_BIGINT w_DOUBLE w_VARCHAR w_BIGINT_ARRAY w_DOUBLE_ARRAY w_VARCHAR_ARRAY w_VARCHAR w_DOUBLE (0 : Int32) s.heap s.heap.size (Nat.le_refl _) S_BIGINT S_DOUBLE S_VARCHAR S_BIGINT_ARRAY S_DOUBLE_ARRAY S_VARCHAR_ARRAY E_VARCHAR (by rw [hv] <;> rw [hj] <;> decide) (by rw [hv] <;> decide) (by rw [hv] <;> decide) E_BIGINT E_DOUBLE E_VARCHAR E_BIGINT_ARRAY E_DOUBLE_ARRAY E_VARCHAR_ARRAY (by rw [hv] <;> decide) (by rw [hv] <;> rfl) (by rw [hj] <;> decide) (by rw [hj] <;> rfl) (Or.inr (Or.inr (Or.inl ⟨w_DOUBLE, (0 : Int32), S_DOUBLE, E_VARCHAR, (Fld.ne F_DOUBLE_ordinal F_VARCHAR_ordinal (by decide)), (Fld.ne F_VARCHAR_ordinal F_DOUBLE_ordinal (by decide)), (Or.inr ⟨F_VARCHAR_element, rfl⟩), (by decide), rfl⟩))) (by decide)
      · exact rm0_tf l s _ hw tables_1 i0 i1 w_BIGINT w_DOUBLE w_VARCHAR w_BIGINT_ARRAY w_DOUBLE_ARRAY w_VARCHAR_ARRAY w_VARCHAR w_VARCHAR (1 : Int32) s.heap s.heap.size (Nat.le_refl _) S_BIGINT S_DOUBLE S_VARCHAR S_BIGINT_ARRAY S_DOUBLE_ARRAY S_VARCHAR_ARRAY E_VARCHAR (by rw [hv] <;> rw [hj] <;> decide) E_BIGINT E_DOUBLE E_VARCHAR E_BIGINT_ARRAY E_DOUBLE_ARRAY E_VARCHAR_ARRAY (by rw [hv] <;> decide) (by rw [hv] <;> rfl) (by rw [hj] <;> decide) (by rw [hj] <;> rfl) (Or.inl ⟨rfl, rfl⟩) (by decide)
      · exact rm0_fttf l s _ hw tables_1 i0 i1 w_BIGINT w_DOUBLE w_VARCHAR w_BIGINT_ARRAY w_DOUBLE_ARRAY w_VARCHAR_ARRAY w_VARCHAR w_BIGINT_ARRAY (0 : Int32) s.heap s.heap.size (Nat.le_refl _) S_BIGINT S_DOUBLE S_VARCHAR S_BIGINT_ARRAY S_DOUBLE_ARRAY S_VARCHAR_ARRAY E_VARCHAR (by rw [hv] <;> rw [hj] <;> decide) (by rw [hv] <;> decide) (by rw [hv] <;> decide) E_BIGINT E_DOUBLE E_VARCHAR E_BIGINT_ARRAY E_DOUBLE_ARRAY E_VARCHAR_ARRAY (by rw [hv] <;> decide) (by rw [hv] <;> rfl) (by rw [hj] <;> decide) (by rw [hj] <;> rfl) (Or.inr (Or.inr (Or.inl ⟨w_DOUBLE, (0 : Int32), S_DOUBLE, E_VARCHAR, (Fld.ne F_BIGINT_ARRAY_ordinal F_VARCHAR_ordinal (by decide)), (Fld.ne F_VARCHAR_ordinal F_DOUBLE_ordinal (by decide)), (Or.inr ⟨F_VARCHAR_element, rfl⟩), (by decide), rfl⟩))) (by decide)
      · exact rm0_fttf l s _ hw tables_1 i0 i1 w_BIGINT w_DOUBLE w_VARCHAR w_BIGINT_ARRAY w_DOUBLE_ARRAY w_VARCHAR_ARRAY w_VARCHAR w_DOUBLE_ARRAY (0 : Int32) s.heap s.heap.size (Nat.le_refl _) S_BIGINT S_DOUBLE S_VARCHAR S_BIGINT_ARRAY S_DOUBLE_ARRAY S_VARCHAR_ARRAY E_VARCHAR (by rw [hv] <;> rw [hj] <;> decide) (by rw [hv] <;> decide) (by rw [hv] <;> decide) E_BIGINT E_DOUBLE E_VARCHAR E_BIGINT_ARRAY E_DOUBLE_ARRAY E_VARCHAR_ARRAY (by rw [hv] <;> decide) (by rw [hv] <;> rfl) (by rw [hj] <;> decide) (by rw [hj] <;> rfl) (Or.inr (Or.inr (Or.inl ⟨w_DOUBLE, (0 : Int32), S_DOUBLE, E_VARCHAR, (Fld.ne F_DOUBLE_ARRAY_ordinal F_VARCHAR_ordinal (by decide)), (Fld.ne F_VARCHAR_ordinal F_DOUBLE_ordinal (by decide)), (Or.inr ⟨F_VARCHAR_element, rfl⟩), (by decide), rfl⟩))) (by decide)
      · exact rm0_fttf l s _ hw tables_1 i0 i1 w_BIGINT w_DOUBLE w_VARCHAR w_BIGINT_ARRAY w_DOUBLE_ARRAY w_VARCHAR_ARRAY w_VARCHAR w_VARCHAR_ARRAY (0 : Int32) s.heap s.heap.size (Nat.le_refl _) S_BIGINT S_DOUBLE S_VARCHAR S_BIGINT_ARRAY S_DOUBLE_ARRAY S_VARCHAR_ARRAY E_VARCHAR (by rw [hv] <;> rw [hj] <;> decide) (by rw [hv] <;> decide) (by rw [hv] <;> decide) E_BIGINT E_DOUBLE E_VARCHAR E_BIGINT_ARRAY E_DOUBLE_ARRAY E_VARCHAR_ARRAY (by rw [hv] <;> decide) (by rw [hv] <;> rfl) (by rw [hj] <;> decide) (by rw [hj] <;> rfl) (Or.inr (Or.inr (Or.inl ⟨w_DOUBLE, (0 : Int32), S_DOUBLE, E_VARCHAR, (Fld.ne F_VARCHAR_ARRAY_ordinal F_VARCHAR_ordinal (by decide)), (Fld.ne F_VARCHAR_ordinal F_DOUBLE_ordinal (by decide)), (Or.inr ⟨F_VARCHAR_element, rfl⟩), (by decide), rfl⟩))) (by decide)
      · exact rm0_n_fttf l s _ hw tables_1 i0 i1 w_BIGINT w_DOUBLE w_VARCHAR w_BIGINT_ARRAY w_DOUBLE_ARRAY w_VARCHAR_ARRAY w_VARCHAR (0 : Int32) s.heap s.heap.size (Nat.le_refl _) S_BIGINT S_DOUBLE S_VARCHAR S_BIGINT_ARRAY S_DOUBLE_ARRAY S_VARCHAR_ARRAY E_VARCHAR (by rw [hv] <;> rw [hj] <;> decide) (by rw [hv] <;> decide) (by rw [hv] <;> decide) E_BIGINT E_DOUBLE E_VARCHAR E_BIGINT_ARRAY E_DOUBLE_ARRAY E_VARCHAR_ARRAY (by rw [hv] <;> decide) (by rw [hv] <;> rfl) (by rw [hj] <;> decide) (by rw [hj] <;> rfl) (Or.inl ⟨w_DOUBLE, (0 : Int32), S_DOUBLE, E_VARCHAR, (Fld.ne F_VARCHAR_ordinal F_DOUBLE_ordinal (by decide)), (Or.inr ⟨F_VARCHAR_element, rfl⟩), (by decide), rfl⟩) (by decide)
    · rcases own_j i1 with hj | hj | hj | hj | hj | hj | hj
      · exact rm0_fttf l s _ hw tables_1 i0 i1 w_BIGINT w_DOUBLE w_VARCHAR w_BIGINT_ARRAY w_DOUBLE_ARRAY w_VARCHAR_ARRAY w_BIGINT_ARRAY w_BIGINT (0 : Int32) s.heap s.heap.size (Nat.le_refl _) S_BIGINT S_DOUBLE S_VARCHAR S_BIGINT_ARRAY S_DOUBLE_ARRAY S_VARCHAR_ARRAY E_BIGINT_ARRAY (by rw [hv] <;> rw [hj] <;> decide) (by rw [hv] <;> decide) (by rw [hv] <;> decide) E_BIGINT E_DOUBLE E_VARCHAR E_BIGINT_ARRAY E_DOUBLE_ARRAY E_VARCHAR_ARRAY (by rw [hv] <;> decide) (by rw [hv] <;> rfl) (by rw [hj] <;> decide) (by rw [hj] <;> rfl) (Or.inr (Or.inr (Or.inr (Or.inr (Or.inl ⟨w_DOUBLE, (1 : Int32), (0 : Int32), S_DOUBLE, E_BIGINT_ARRAY, E_BIGINT, (Fld.ne F_BIGINT_ordinal F_BIGINT_ARRAY_ordinal (by decide)), (Fld.ne F_BIGINT_ARRAY_ordinal F_DOUBLE_ordinal (by decide)), (Or.inl ⟨w_BIGINT, F_BIGINT_ARRAY_element, rfl⟩), (Or.inr ⟨F_BIGINT_element, rfl⟩), (by decide), (by decide), rfl⟩))))) (by decide)
      · exact rm0_fttf l s _ hw tables_1 i0 i1 w_BIGINT w_DOUBLE w_VARCHAR w_BIGINT_ARRAY w_DOUBLE_ARRAY w_VARCHAR_ARRAY w_BIGINT_ARRAY w_DOUBLE (0 : Int32) s.heap s.heap.size (Nat.le_refl _) S_BIGINT S_DOUBLE S_VARCHAR S_BIGINT_ARRAY S_DOUBLE_ARRAY S_VARCHAR_ARRAY E_BIGINT_ARRAY (by rw [hv] <;> rw [hj] <;> decide) (by rw [hv] <;> decide) (by rw [hv] <;> decide) E_BIGINT E_DOUBLE E_VARCHAR E_BIGINT_ARRAY E_DOUBLE_ARRAY E_VARCHAR_ARRAY (by rw [hv] <;> decide) (by rw [hv] <;> rfl) (by rw [hj] <;> decide) (by rw [hj] <;> rfl) (Or.inr (Or.inr (Or.inr (Or.inr (Or.inl ⟨w_DOUBLE, (1 : Int32), (0 : Int32), S_DOUBLE, E_BIGINT_ARRAY, E_DOUBLE, (Fld.ne F_DOUBLE_ordinal F_BIGINT_ARRAY_ordinal (by decide)), (Fld.ne F_BIGINT_ARRAY_ordinal F_DOUBLE_ordinal (by decide)), (Or.inl ⟨w_BIGINT, F_BIGINT_ARRAY_element, rfl⟩), (Or.inr ⟨F_DOUBLE_element, rfl⟩), (by decide), (by decide), rfl⟩))))) (by decide)
      · exact rm0_fttf l s _ hw tables_1 i0 i1 w_BIGINT w_DOUBLE w_VARCHAR w_BIGINT_ARRAY w_DOUBLE_ARRAY w_VARCHAR_ARRAY w_BIGINT_ARRAY w_VARCHAR (0 : Int32) s.heap s.heap.size (Nat.le_refl _) S_BIGINT S_DOUBLE S_VARCHAR S_BIGINT_ARRAY S_DOUBLE_ARRAY S_VARCHAR_ARRAY E_BIGINT_ARRAY (by rw [hv] <;> rw [hj] <;> decide) (by rw [hv] <;> decide) (by rw [hv] <;> decide) E_BIGINT E_DOUBLE E_VARCHAR E_BIGINT_ARRAY E_DOUBLE_ARRAY E_VARCHAR_ARRAY (by rw [hv] <;> decide) (by rw [hv] <;> rfl) (by rw [hj] <;> decide) (by rw [hj] <;> rfl) (Or.inr (Or.inr (Or.inr (Or.inr (Or.inl ⟨w_DOUBLE, (1 : Int32), (0 : Int32), S_DOUBLE, E_BIGINT_ARRAY, E_VARCHAR, (Fld.ne F_VARCHAR_ordinal F_BIGINT_ARRAY_ordinal (by decide)), (Fld.ne F_BIGINT_ARRAY_ordinal F_DOUBLE_ordinal (by decide)), (Or.inl ⟨w_BIGINT, F_BIGINT_ARRAY_element, rfl⟩), (Or.inr ⟨F_VARCHAR_element, rfl⟩), (by decide), (by decide), rfl⟩))))) (by decide)
      · exact rm0_tf l s _ hw tables_1 i0 i1 w_BIGINT w_DOUBLE w_VARCHAR w_BIGINT_ARRAY w_DOUBLE_ARRAY w_VARCHAR_ARRAY w_BIGINT_ARRAY w_BIGINT_ARRAY (1 : Int32) s.heap s.heap.size (Nat.le_refl _) S_BIGINT S_DOUBLE S_VARCHAR S_BIGINT_ARRAY S_DOUBLE_ARRAY S_VARCHAR_ARRAY E_BIGINT_ARRAY (by rw [hv] <;> rw [hj] <;> decide) E_BIGINT E_DOUBLE E_VARCHAR E_BIGINT_ARRAY E_DOUBLE_ARRAY E_VARCHAR_ARRAY (by rw [hv] <;> decide) (by rw [hv] <;> rfl) (by rw [hj] <;> decide) (by rw [hj] <;> rfl) (Or.inl ⟨rfl, rfl⟩) (by decide)
      · exact rm0_fttf l s _ hw tables_1 i0 i1 w_BIGINT w_DOUBLE w_VARCHAR w_BIGINT_ARRAY w_DOUBLE_ARRAY w_VARCHAR_ARRAY w_BIGINT_ARRAY w_DOUBLE_ARRAY (0 : Int32) s.heap s.heap.size (Nat.le_refl _) S_BIGINT S_DOUBLE S_VARCHAR S_BIGINT_ARRAY S_DOUBLE_ARRAY S_VARCHAR_ARRAY E_BIGINT_ARRAY (by rw [hv] <;> rw [hj] <;> decide) (by rw [hv] <;> decide) (by rw [hv] <;> decide) E_BIGINT E_DOUBLE E_VARCHAR E_BIGINT_ARRAY E_DOUBLE_ARRAY E_VARCHAR_ARRAY (by rw [hv] <;> decide) (by rw [hv] <;> rfl) (by rw [hj] <;> decide) (by rw [hj] <;> rfl) (Or.inr (Or.inr (Or.inr (Or.inr (Or.inr (Or.inr (Or.inr (Or.inl ⟨w_DOUBLE, w_BIGINT, w_DOUBLE, (1 : Int32), (1 : Int32), (0 : Int32), S_DOUBLE, E_BIGINT_ARRAY, E_DOUBLE_ARRAY, F_BIGINT_ARRAY_element, F_DOUBLE_ARRAY_element, E_BIGINT, (Fld.ne F_DOUBLE_ARRAY_ordinal F_BIGINT_ARRAY_ordinal (by decide)), (Fld.ne F_BIGINT_ARRAY_ordinal F_DOUBLE_ordinal (by decide)), (Or.inl ⟨w_BIGINT, F_BIGINT_ARRAY_element, rfl⟩), (Or.inl ⟨w_DOUBLE, F_DOUBLE_ARRAY_element, rfl⟩), (Or.inr (Or.inr (Or.inl ⟨w_DOUBLE, (0 : Int32), S_DOUBLE, E_BIGINT, (Fld.ne F_DOUBLE_ordinal F_BIGINT_ordinal (by decide)), (Fld.ne F_BIGINT_ordinal F_DOUBLE_ordinal (by decide)), (Or.inr ⟨F_BIGINT_element, rfl⟩), (by decide), rfl⟩))), (by decide), (by decide), (by decide), rfl⟩)))))))) (by decide)
      · exact rm0_fttf l s _ hw tables_1 i0 i1 w_BIGINT w_DOUBLE w_VARCHAR w_BIGINT_ARRAY w_DOUBLE_ARRAY w_VARCHAR_ARRAY w_BIGINT_ARRAY w_VARCHAR_ARRAY (0 : Int32) s.heap s.heap.size (Nat.le_refl _) S_BIGINT S_DOUBLE S_VARCHAR S_BIGINT_ARRAY S_DOUBLE_ARRAY S_VARCHAR_ARRAY E_BIGINT_ARRAY (by rw [hv] <;> rw [hj] <;> decide) (by rw [hv] <;> decide) (by rw [hv] <;> decide) E_BIGINT E_DOUBLE E_VARCHAR E_BIGINT_ARRAY E_DOUBLE_ARRAY E_VARCHAR_ARRAY (by rw [hv] <;> decide) (by rw [hv] <;> rfl) (by rw [hj] <;> decide) (by rw [hj] <;> rfl) (Or.inr (Or.inr (Or.inr (Or.inr (Or.inr (Or.inr (Or.inr (Or.inl ⟨w_DOUBLE, w_BIGINT, w_VARCHAR, (1 : Int32), (1 : Int32), (0 : Int32), S_DOUBLE, E_BIGINT_ARRAY, E_VARCHAR_ARRAY, F_BIGINT_ARRAY_element, F_VARCHAR_ARRAY_element, E_BIGINT, (Fld.ne F_VARCHAR_ARRAY_ordinal F_BIGINT_ARRAY_ordinal (by decide)), (Fld.ne F_BIGINT_ARRAY_ordinal F_DOUBLE_ordinal (by decide)), (Or.inl ⟨w_BIGINT, F_BIGINT_ARRAY_element, rfl⟩), (Or.inl ⟨w_VARCHAR, F_VARCHAR_ARRAY_element, rfl⟩), (Or.inr (Or.inr (Or.inl ⟨w_DOUBLE, (0 : Int32), S_DOUBLE, E_BIGINT, (Fld.ne F_VARCHAR_ordinal F_BIGINT_ordinal (by decide)), (Fld.ne F_BIGINT_ordinal F_DOUBLE_ordinal (by decide)), (Or.inr ⟨F_BIGINT_element, rfl⟩), (by decide), rfl⟩))), (by decide), (by decide), (by decide), rfl⟩)))))))) (by decide)
      · exact rm0_n_fttf l s _ hw tables_1 i0 i1 w_BIGINT w_DOUBLE w_VARCHAR w_BIGINT_ARRAY w_DOUBLE_ARRAY w_VARCHAR_ARRAY w_BIGINT_ARRAY (0 : Int32) s.heap s.heap.size (Nat.le_refl _) S_BIGINT S_DOUBLE S_VARCHAR S_BIGINT_ARRAY S_DOUBLE_ARRAY S_VARCHAR_ARRAY E_BIGINT_ARRAY (by rw [hv] <;> rw [hj] <;> decide) (by rw [hv] <;> decide) (by rw [hv] <;> decide) E_BIGINT E_DOUBLE E_VARCHAR E_BIGINT_ARRAY E_DOUBLE_ARRAY E_VARCHAR_ARRAY (by rw [hv] <;> decide) (by rw [hv] <;> rfl) (by rw [hj] <;> decide) (by rw [hj] <;> rfl) (Or.inr (Or.inr (Or.inl ⟨w_DOUBLE, (1 : Int32), S_DOUBLE, E_BIGINT_ARRAY, (Fld.ne F_BIGINT_ARRAY_ordinal F_DOUBLE_ordinal (by decide)), (Or.inl ⟨w_BIGINT, F_BIGINT_ARRAY_element, rfl⟩), (by decide), rfl⟩))) (by decide)
    · rcases own_j i1 with hj | hj | hj | hj | hj | hj | hj
      · exact rm0_ftftf l s _ hw tables_1 i0 i1 w_BIGINT w_DOUBLE w_VARCHAR w_BIGINT_ARRAY w_DOUBLE_ARRAY w_VARCHAR_ARRAY w_DOUBLE_ARRAY w_BIGINT (0 : Int32) s.heap s.heap.size (Nat.le_refl _) S_BIGINT S_DOUBLE S_VARCHAR S_BIGINT_ARRAY S_DOUBLE_ARRAY S_VARCHAR_ARRAY E_DOUBLE_ARRAY (by rw [hv] <;> rw [hj] <;> decide) (by rw [hv] <;> decide) (by rw [hv] <;> decide) (by rw [hj] <;> decide) E_BIGINT E_DOUBLE E_VARCHAR E_BIGINT_ARRAY E_DOUBLE_ARRAY E_VARCHAR_ARRAY (by rw [hv] <;> decide) (by rw [hv] <;> rfl) (by rw [hj] <;> decide) (by rw [hj] <;> rfl) (Or.inr (Or.inr (Or.inr (Or.inr (Or.inl ⟨w_DOUBLE, (1 : Int32), (0 : Int32), S_DOUBLE, E_DOUBLE_ARRAY, E_BIGINT, (Fld.ne F_BIGINT_ordinal F_DOUBLE_ARRAY_ordinal (by decide)), (Fld.ne F_DOUBLE_ARRAY_ordinal F_DOUBLE_ordinal (by decide)), (Or.inl ⟨w_DOUBLE, F_DOUBLE_ARRAY_element, rfl⟩), (Or.inr ⟨F_BIGINT_element, rfl⟩), (by decide), (by decide), rfl⟩))))) (by decide)
      · exact rm0_ftftf l s _ hw tables_1 i0 i1 w_BIGINT w_DOUBLE w_VARCHAR w_BIGINT_ARRAY w_DOUBLE_ARRAY w_VARCHAR_ARRAY w_DOUBLE_ARRAY w_DOUBLE (0 : Int32) s.heap s.heap.size (Nat.le_refl _) S_BIGINT S_DOUBLE S_VARCHAR S_BIGINT_ARRAY S_DOUBLE_ARRAY S_VARCHAR_ARRAY E_DOUBLE_ARRAY (by rw [hv] <;> rw [hj] <;> decide) (by rw [hv] <;> decide) (by rw [hv] <;> decide) (by rw [hj] <;> decide) E_BIGINT E_DOUBLE E_VARCHAR E_BIGINT_ARRAY E_DOUBLE_ARRAY E_VARCHAR_ARRAY (by rw [hv] <;> decide) (by rw [hv] <;> rfl) (by rw [hj] <;> decide) (by rw [hj] <;> rfl) (Or.inr (Or.inr (Or.inr (Or.inr (Or.inl ⟨w_DOUBLE, (1 : Int32), (0 : Int32), S_DOUBLE, E_DOUBLE_ARRAY, E_DOUBLE, (Fld.ne F_DOUBLE_ordinal F_DOUBLE_ARRAY_ordinal (by decide)), (Fld.ne F_DOUBLE_ARRAY_ordinal F_DOUBLE_ordinal (by decide)), (Or.inl ⟨w_DOUBLE, F_DOUBLE_ARRAY_element, rfl⟩), (Or.inr ⟨F_DOUBLE_element, rfl⟩), (by decide), (by decide), rfl⟩))))) (by decide)
      · exact rm0_ftftf l s _ hw tables_1 i0 i1 w_BIGINT w_DOUBLE w_VARCHAR w_BIGINT_ARRAY w_DOUBLE_ARRAY w_VARCHAR_ARRAY w_DOUBLE_ARRAY w_VARCHAR (0 : Int32) s.heap s.heap.size (Nat.le_refl _) S_BIGINT S_DOUBLE S_VARCHAR S_BIGINT_ARRAY S_DOUBLE_ARRAY S_VARCHAR_ARRAY E_DOUBLE_ARRAY (by rw [hv] <;> rw [hj] <;> decide) (by rw [hv] <;> decide) (by rw [hv] <;> decide) (by rw [hj] <;> decide) E_BIGINT E_DOUBLE E_VARCHAR E_BIGINT_ARRAY E_DOUBLE_ARRAY E_VARCHAR_ARRAY (by rw [hv] <;> decide) (by rw [hv] <;> rfl) (by rw [hj] <;> decide) (by rw [hj] <;> rfl) (Or.inr (Or.inr (Or.inr (Or.inr (Or.inl ⟨w_DOUBLE, (1 : Int32), (0 : Int32), S_DOUBLE, E_DOUBLE_ARRAY, E_VARCHAR, (Fld.ne F_VARCHAR_ordinal F_DOUBLE_ARRAY_ordinal (by decide)), (Fld.ne F_DOUBLE_ARRAY_ordinal F_DOUBLE_ordinal (by decide)), (Or.inl ⟨w_DOUBLE, F_DOUBLE_ARRAY_element, rfl⟩), (Or.inr ⟨F_VARCHAR_element, rfl⟩), (by decide), (by decide), rfl⟩))))) (by decide)
      · exact rm0_ftfff l s _ hw tables_1 i0 i1 w_BIGINT w_DOUBLE w_VARCHAR w_BIGINT_ARRAY w_DOUBLE_ARRAY w_VARCHAR_ARRAY w_DOUBLE_ARRAY w_BIGINT_ARRAY (1 : Int32) s.heap s.heap.size (Nat.le_refl _) S_BIGINT S_DOUBLE S_VARCHAR S_BIGINT_ARRAY S_DOUBLE_ARRAY S_VARCHAR_ARRAY E_DOUBLE_ARRAY (by rw [hv] <;> rw [hj] <;> decide) (by rw [hv] <;> decide) (by rw [hv] <;> decide) (by rw [hj] <;> decide) E_BIGINT E_DOUBLE E_VARCHAR E_BIGINT_ARRAY E_DOUBLE_ARRAY E_VARCHAR_ARRAY (by rw [hv] <;> decide) (by rw [hv] <;> rfl) (by rw [hj] <;> decide) (by rw [hj] <;> rfl) (Or.inr (Or.inr (Or.inr (Or.inr (Or.inr (Or.inr (Or.inl ⟨w_DOUBLE, w_DOUBLE, w_BIGINT, (1 : Int32), (1 : Int32), (1 : Int32), S_DOUBLE, E_DOUBLE_ARRAY, E_BIGINT_ARRAY, F_DOUBLE_ARRAY_element, F_BIGINT_ARRAY_element, E_DOUBLE, (Fld.ne F_BIGINT_ARRAY_ordinal F_DOUBLE_ARRAY_ordinal (by decide)), (Fld.ne F_DOUBLE_ARRAY_ordinal F_DOUBLE_ordinal (by decide)), (Or.inl ⟨w_DOUBLE, F_DOUBLE_ARRAY_element, rfl⟩), (Or.inl ⟨w_BIGINT, F_BIGINT_ARRAY_element, rfl⟩), (Or.inr (Or.inl ⟨w_DOUBLE, w_BIGINT, S_DOUBLE, S_BIGINT, (Fld.ne F_BIGINT_ordinal F_DOUBLE_ordinal (by decide)), rfl, rfl, rfl⟩)), (by decide), (by decide), (by decide), rfl⟩))))))) (by decide)
      · exact rm0_tf l s _ hw tables_1 i0 i1 w_BIGINT w_DOUBLE w_VARCHAR w_BIGINT_ARRAY w_DOUBLE_ARRAY w_VARCHAR_ARRAY w_DOUBLE_ARRAY w_DOUBLE_ARRAY (1 : Int32) s.heap s.heap.size (Nat.le_refl _) S_BIGINT S_DOUBLE S_VARCHAR S_BIGINT_ARRAY S_DOUBLE_ARRAY S_VARCHAR_ARRAY E_DOUBLE_ARRAY (by rw [hv] <;> rw [hj] <;> decide) E_BIGINT E_DOUBLE E_VARCHAR E_BIGINT_ARRAY E_DOUBLE_ARRAY E_VARCHAR_ARRAY (by rw [hv] <;> decide) (by rw [hv] <;> rfl) (by rw [hj] <;> decide) (by rw [hj] <;> rfl) (Or.inl ⟨rfl, rfl⟩) (by decide)
      · exact rm0_ftftf l s _ hw tables_1 i0 i1 w_BIGINT w_DOUBLE w_VARCHAR w_BIGINT_ARRAY w_DOUBLE_ARRAY w_VARCHAR_ARRAY w_DOUBLE_ARRAY w_VARCHAR_ARRAY (0 : Int32) s.heap s.heap.size (Nat.le_refl _) S_BIGINT S_DOUBLE S_VARCHAR S_BIGINT_ARRAY S_DOUBLE_ARRAY S_VARCHAR_ARRAY E_DOUBLE_ARRAY (by rw [hv] <;> rw [hj] <;> decide) (by rw [hv] <;> decide) (by rw [hv] <;> decide) (by rw [hj] <;> decide) E_BIGINT E_DOUBLE E_VARCHAR E_BIGINT_ARRAY E_DOUBLE_ARRAY E_VARCHAR_ARRAY (by rw [hv] <;> decide) (by rw [hv] <;> rfl) (by rw [hj] <;> decide) (by rw [hj] <;> rfl) (Or.inr (Or.inr (Or.inr (Or.inr (Or.inr (Or.inr (Or.inr (Or.inl ⟨w_DOUBLE, w_DOUBLE, w_VARCHAR, (1 : Int32), (1 : Int32), (0 : Int32), S_DOUBLE, E_DOUBLE_ARRAY, E_VARCHAR_ARRAY, F_DOUBLE_ARRAY_element, F_VARCHAR_ARRAY_element, E_DOUBLE, (Fld.ne F_VARCHAR_ARRAY_ordinal F_DOUBLE_ARRAY_ordinal (by decide)), (Fld.ne F_DOUBLE_ARRAY_ordinal F_DOUBLE_ordinal (by decide)), (Or.inl ⟨w_DOUBLE, F_DOUBLE_ARRAY_element, rfl⟩), (Or.inl ⟨w_VARCHAR, F_VARCHAR_ARRAY_element, rfl⟩), (Or.inr (Or.inr (Or.inr (Or.inl ⟨w_DOUBLE, w_BIGINT, (0 : Int32), S_DOUBLE, S_BIGINT, E_DOUBLE, (Fld.ne F_VARCHAR_ordinal F_DOUBLE_ordinal (by decide)), rfl, (Fld.ne F_VARCHAR_ordinal F_BIGINT_ordinal (by decide)), (Or.inr ⟨F_DOUBLE_element, rfl⟩), (by decide), rfl⟩)))), (by decide), (by decide), (by decide), rfl⟩)))))))) (by decide)
      · exact rm0_n_ftftf l s _ hw tables_1 i0 i1 w_BIGINT w_DOUBLE w_VARCHAR w_BIGINT_ARRAY w_DOUBLE_ARRAY w_VARCHAR_ARRAY w_DOUBLE_ARRAY (0 : Int32) s.heap s.heap.size (Nat.le_refl _) S_BIGINT S_DOUBLE S_VARCHAR S_BIGINT_ARRAY S_DOUBLE_ARRAY S_VARCHAR_ARRAY E_DOUBLE_ARRAY (by rw [hv] <;> rw [hj] <;> decide) (by rw [hv] <;> decide) (by rw [hv] <;> decide) (by rw [hj] <;> decide) E_BIGINT E_DOUBLE E_VARCHAR E_BIGINT_ARRAY E_DOUBLE_ARRAY E_VARCHAR_ARRAY (by rw [hv] <;> decide) (by rw [hv] <;> rfl) (by rw [hj] <;> decide) (by rw [hj] <;> rfl) (Or.inr (Or.inr (Or.inl ⟨w_DOUBLE, (1 : Int32), S_DOUBLE, E_DOUBLE_ARRAY, (Fld.ne F_DOUBLE_ARRAY_ordinal F_DOUBLE_ordinal (by decide)), (Or.inl ⟨w_DOUBLE, F_DOUBLE_ARRAY_element, rfl⟩), (by decide), rfl⟩))) (by decide)
    · rcases own_j i1 with hj | hj | hj | hj | hj | hj | hj
      · exact rm0_fttf l s _ hw tables_1 i0 i1 w_BIGINT w_DOUBLE w_VARCHAR w_BIGINT_ARRAY w_DOUBLE_ARRAY w_VARCHAR_ARRAY w_VARCHAR_ARRAY w_BIGINT (0 : Int32) s.heap s.heap.size (Nat.le_refl _) S_BIGINT S_DOUBLE S_VARCHAR S_BIGINT_ARRAY S_DOUBLE_ARRAY S_VARCHAR_ARRAY E_VARCHAR_ARRAY (by rw [hv] <;> rw [hj] <;> decide) (by rw [hv] <;> decide) (by rw [hv] <;> decide) E_BIGINT E_DOUBLE E_VARCHAR E_BIGINT_ARRAY E_DOUBLE_ARRAY E_VARCHAR_ARRAY (by rw [hv] <;> decide) (by rw [hv] <;> rfl) (by rw [hj] <;> decide) (by rw [hj] <;> rfl) (Or.inr (Or.inr (Or.inr (Or.inr (Or.inl ⟨w_DOUBLE, (1 : Int32), (0 : Int32), S_DOUBLE, E_VARCHAR_ARRAY, E_BIGINT, (Fld.ne F_BIGINT_ordinal F_VARCHAR_ARRAY_ordinal (by decide)), (Fld.ne F_VARCHAR_ARRAY_ordinal F_DOUBLE_ordinal (by decide)), (Or.inl ⟨w_VARCHAR, F_VARCHAR_ARRAY_element, rfl⟩), (Or.inr ⟨F_BIGINT_element, rfl⟩), (by decide), (by decide), rfl⟩))))) (by decide)
      · exact rm0_fttf l s _ hw tables_1 i0 i1 w_BIGINT w_DOUBLE w_VARCHAR w_BIGINT_ARRAY w_DOUBLE_ARRAY w_VARCHAR_ARRAY w_VARCHAR_ARRAY w_DOUBLE (0 : Int32) s.heap s.heap.size (Nat.le_refl _) S_BIGINT S_DOUBLE S_VARCHAR S_BIGINT_ARRAY S_DOUBLE_ARRAY S_VARCHAR_ARRAY E_VARCHAR_ARRAY (by rw [hv] <;> rw [hj] <;> decide) (by rw [hv] <;> decide) (by rw [hv] <;> decide) E_BIGINT E_DOUBLE E_VARCHAR E_BIGINT_ARRAY E_DOUBLE_ARRAY E_VARCHAR_ARRAY (by rw [hv] <;> decide) (by rw [hv] <;> rfl) (by rw [hj] <;> decide) (by rw [hj] <;> rfl) (Or.inr (Or.inr (Or.inr (Or.inr (Or.inl ⟨w_DOUBLE, (1 : Int32), (0 : Int32), S_DOUBLE, E_VARCHAR_ARRAY, E_DOUBLE, (Fld.ne F_DOUBLE_ordinal F_VARCHAR_ARRAY_ordinal (by decide)), (Fld.ne F_VARCHAR_ARRAY_ordinal F_DOUBLE_ordinal (by decide)), (Or.inl ⟨w_VARCHAR, F_VARCHAR_ARRAY_element, rfl⟩), (Or.inr ⟨F_DOUBLE_element, rfl⟩), (by decide), (by decide), rfl⟩))))) (by decide)
      · exact rm0_fttf l s _ hw tables_1 i0 i1 w_BIGINT w_DOUBLE w_VARCHAR w_BIGINT_ARRAY w_DOUBLE_ARRAY w_VARCHAR_ARRAY w_VARCHAR_ARRAY w_VARCHAR (0 : Int32) s.heap s.heap.size (Nat.le_refl _) S_BIGINT S_DOUBLE S_VARCHAR S_BIGINT_ARRAY S_DOUBLE_ARRAY S_VARCHAR_ARRAY E_VARCHAR_ARRAY (by rw [hv] <;> rw [hj] <;> decide) (by rw [hv] <;> decide) (by rw [hv] <;> decide) E_BIGINT E_DOUBLE E_VARCHAR E_BIGINT_ARRAY E_DOUBLE_ARRAY E_VARCHAR_ARRAY (by rw [hv] <;> decide) (by rw [hv] <;> rfl) (by rw [hj] <;> decide) (by rw [hj] <;> rfl) (Or.inr (Or.inr (Or.inr (Or.inr (Or.inl ⟨w_DOUBLE, (1 : Int32), (0 : Int32), S_DOUBLE, E_VARCHAR_ARRAY, E_VARCHAR, (Fld.ne F_VARCHAR_ordinal F_VARCHAR_ARRAY_ordinal (by decide)), (Fld.ne F_VARCHAR_ARRAY_ordinal F_DOUBLE_ordinal (by decide)), (Or.inl ⟨w_VARCHAR, F_VARCHAR_ARRAY_element, rfl⟩), (Or.inr ⟨F_VARCHAR_element, rfl⟩), (by decide), (by decide), rfl⟩))))) (by decide)
      · exact rm0_fttf l s _ hw tables_1 i0 i1 w_BIGINT w_DOUBLE w_VARCHAR w_BIGINT_ARRAY w_DOUBLE_ARRAY w_VARCHAR_ARRAY w_VARCHAR_ARRAY w_BIGINT_ARRAY (0 : Int32) s.heap s.heap.size (Nat.le_refl _) S_BIGINT S_DOUBLE S_VARCHAR S_BIGINT_ARRAY S_DOUBLE_ARRAY S_VARCHAR_ARRAY E_VARCHAR_ARRAY (by rw [hv] <;> rw [hj] <;> decide) (by rw [hv] <;> decide) (by rw [hv] <;> decide) E_BIGINT E_DOUBLE E_VARCHAR E_BIGINT_ARRAY E_DOUBLE_ARRAY E_VARCHAR_ARRAY (by rw [hv] <;> decide) (by rw [hv] <;> rfl) (by rw [hj] <;> decide) (by rw [hj] <;> rfl) (Or.inr (Or.inr (Or.inr (Or.inr (Or.inr (Or.inr (Or.inr (Or.inl ⟨w_DOUBLE, w_VARCHAR, w_BIGINT, (1 : Int32), (1 : Int32), (0 : Int32), S_DOUBLE, E_VARCHAR_ARRAY, E_BIGINT_ARRAY, F_VARCHAR_ARRAY_element, F_BIGINT_ARRAY_element, E_VARCHAR, (Fld.ne F_BIGINT_ARRAY_ordinal F_VARCHAR_ARRAY_ordinal (by decide)), (Fld.ne F_VARCHAR_ARRAY_ordinal F_DOUBLE_ordinal (by decide)), (Or.inl ⟨w_VARCHAR, F_VARCHAR_ARRAY_element, rfl⟩), (Or.inl ⟨w_BIGINT, F_BIGINT_ARRAY_element, rfl⟩), (Or.inr (Or.inr (Or.inl ⟨w_DOUBLE, (0 : Int32), S_DOUBLE, E_VARCHAR, (Fld.ne F_BIGINT_ordinal F_VARCHAR_ordinal (by decide)), (Fld.ne F_VARCHAR_ordinal F_DOUBLE_ordinal (by decide)), (Or.inr ⟨F_VARCHAR_element, rfl⟩), (by decide), rfl⟩))), (by decide), (by decide), (by decide), rfl⟩)))))))) (by decide)
      · exact rm0_fttf l s _ hw tables_1 i0 i1 w_BIGINT w_DOUBLE w_VARCHAR w_BIGINT_ARRAY w_DOUBLE_ARRAY w_VARCHAR_ARRAY w_VARCHAR_ARRAY w_DOUBLE_ARRAY (0 : Int32) s.heap s.heap.size (Nat.le_refl _) S_BIGINT S_DOUBLE S_VARCHAR S_BIGINT_ARRAY S_DOUBLE_ARRAY S_VARCHAR_ARRAY E_VARCHAR_ARRAY (by rw [hv] <;> rw [hj] <;> decide) (by rw [hv] <;> decide) (by rw [hv] <;> decide) E_BIGINT E_DOUBLE E_VARCHAR E_BIGINT_ARRAY E_DOUBLE_ARRAY E_VARCHAR_ARRAY (by rw [hv] <;> decide) (by rw [hv] <;> rfl) (by rw [hj] <;> decide) (by rw [hj] <;> rfl) (Or.inr (Or.inr (Or.inr (Or.inr (Or.inr (Or.inr (Or.inr (Or.inl ⟨w_DOUBLE, w_VARCHAR, w_DOUBLE, (1 : Int32), (1 : Int32), (0 : Int32), S_DOUBLE, E_VARCHAR_ARRAY, E_DOUBLE_ARRAY, F_VARCHAR_ARRAY_element, F_DOUBLE_ARRAY_element, E_VARCHAR, (Fld.ne F_DOUBLE_ARRAY_ordinal F_VARCHAR_ARRAY_ordinal (by decide)), (Fld.ne F_VARCHAR_ARRAY_ordinal F_DOUBLE_ordinal (by decide)), (Or.inl ⟨w_VARCHAR, F_VARCHAR_ARRAY_element, rfl⟩), (Or.inl ⟨w_DOUBLE, F_DOUBLE_ARRAY_element, rfl⟩), (Or.inr (Or.inr (Or.inl ⟨w_DOUBLE, (0 : Int32), S_DOUBLE, E_VARCHAR, (Fld.ne F_DOUBLE_ordinal F_VARCHAR_ordinal (by decide)), (Fld.ne F_VARCHAR_ordinal F_DOUBLE_ordinal (by decide)), (Or.inr ⟨F_VARCHAR_element, rfl⟩), (by decide), rfl⟩))), (by decide), (by decide), (by decide), rfl⟩)))))))) (by decide)
      · exact rm0_tf l s _ hw tables_1 i0 i1 w_BIGINT w_DOUBLE w_VARCHAR w_BIGINT_ARRAY w_DOUBLE_ARRAY w_VARCHAR_ARRAY w_VARCHAR_ARRAY w_VARCHAR_ARRAY (1 : Int32) s.heap s.heap.size (Nat.le_refl _) S_BIGINT S_DOUBLE S_VARCHAR S_BIGINT_ARRAY S_DOUBLE_ARRAY S_VARCHAR_ARRAY E_VARCHAR_ARRAY (by rw [hv] <;> rw [hj] <;> decide) E_BIGINT E_DOUBLE E_VARCHAR E_BIGINT_ARRAY E_DOUBLE_ARRAY E_VARCHAR_ARRAY (by rw [hv] <;> decide) (by rw [hv] <;> rfl) (by rw [hj] <;> decide) (by rw [hj] <;> rfl) (Or.inl ⟨rfl, rfl⟩) (by decide)
      · exact rm0_n_fttf l s _ hw tables_1 i0 i1 w_BIGINT w_DOUBLE w_VARCHAR w_BIGINT_ARRAY w_DOUBLE_ARRAY w_VARCHAR_ARRAY w_VARCHAR_ARRAY (0 : Int32) s.heap s.heap.size (Nat.le_refl _) S_BIGINT S_DOUBLE S_VARCHAR S_BIGINT_ARRAY S_DOUBLE_ARRAY S_VARCHAR_ARRAY E_VARCHAR_ARRAY (by rw [hv] <;> rw [hj] <;> decide) (by rw [hv] <;> decide) (by rw [hv] <;> decide) E_BIGINT E_DOUBLE E_VARCHAR E_BIGINT_ARRAY E_DOUBLE_ARRAY E_VARCHAR_ARRAY (by rw [hv] <;> decide) (by rw [hv] <;> rfl) (by rw [hj] <;> decide) (by rw [hj] <;> rfl) (Or.inr (Or.inr (Or.inl ⟨w_DOUBLE, (1 : Int32), S_DOUBLE, E_VARCHAR_ARRAY, (Fld.ne F_VARCHAR_ARRAY_ordinal F_DOUBLE_ordinal (by decide)), (Or.inl ⟨w_VARCHAR, F_VARCHAR_ARRAY_element, rfl⟩), (by decide), rfl⟩))) (by decide)
  obtain ⟨n, o, h1, h2, h3, _, L, rfl, ⟨rfl, N⟩, hq⟩ := key p e ha hc hk s m _ below hf ((Spec.applies_iff_loose hf).mp happ).1 ⟨rfl, State.Warmed39.refl s, rfl⟩ trivial
  refine ⟨n, _, h1, h2, h3, hpost _ _ _ _ _ _ ⟨Cond.after_iff.mpr rfl, Cond.after_iff.mpr (eq_i res_at (Term.int_eval (1)) rfl), trivial⟩ ⟨hq.1, hq.2.1, (hq.2.2.sift fun y hy => Or.inr (N y hy)).mono (by decide) (by decide)⟩⟩
theorem main_1_1 : Claimed_1_1 := comes_1 fun _ _ _ _ _ _ h hF => ⟨h.1, hF⟩
theorem main_1_2 : Claimed_1_2 := comes_1 fun _ _ _ _ _ _ h hF => ⟨h.2.1, hF⟩
end Jvm.Pilot.@@N@@
namespace Jvm.Pilot.@@N@@
open Jvm Jvm.ClassFile Sem Op Lib Jvm.Free Jvm.Stand Jvm.Pilot.@@N@@.Jvm.D
/-! MADE BY PROGRAM (witnessworld.py) out of the Statement's table words and the real class files: 13 classes; the members and pool entries that the words name. The judged class is class 1, her method 1. -/
namespace start1
open Jvm.ClassFile
def u (s : String) : CpInfo := .utf8 (stringToUtf16 s)
/-- a pool by its gaps: so many unusable entries, then the entry; so many at the end -/
def gap : Nat → List CpInfo → List CpInfo
  | 0, r => r
  | n + 1, r => .unusable :: gap n r
def poolList (es : List (Nat × CpInfo)) (last : Nat) : List CpInfo := es.foldr (fun e r => gap e.1 (e.2 :: r)) (gap last [])
def pool (es : List (Nat × CpInfo)) (last : Nat) : Array CpInfo := ⟨poolList es last⟩
def fileOf (pool : Array CpInfo) (this : Nat) (attrs : Array Attribute := #[]) (ms : Array MethodInfo := #[]) (fl : Nat := 33) (sup : Nat := 0) (ifs : Array Nat := #[]) (fds : Array FieldInfo := #[]) : ClassFile where
  minorVersion := 0
  majorVersion := 65
  constantPool := pool
  accessFlags := fl
  thisClass := this
  superClass := sup
  interfaces := ifs
  fields := fds
  methods := ms
  attributes := attrs
def plain (name : String) (sup : Option ClassId) : Class where
  name := name
  kind := .ordinary
  loader := none
  accessFlags := 33
  super := sup
  interfaces := #[]
  cf := none
  fields := #[]
  methods := #[]
  instanceTypes := #[]
  staticTypes := #[]
  resolved := #[]
  callSites := []
  init := .initialized
  statics := none
  mirror := none

def pool0 : Array CpInfo := pool [(5, u "<init>"), (0, u "()V"), (1, .class_ 10), (1, u "java/lang/Object")] 113

def k0m0 : Method := { name := "<init>", desc := "()V", sig := { parameters := [], returnType := none }, accessFlags := 1, code := none }
/-- java/lang/Object -/
def k0 : Class := { plain "java/lang/Object" none with
  accessFlags := 33
  interfaces := #[]
  cf := some (fileOf pool0 8 #[] #[{ accessFlags := 1, nameIndex := 5, descriptorIndex := 6, attributes := #[] }] 33 0 #[] #[])
  fields := #[]
  methods := #[k0m0]
  instanceTypes := #[]
  staticTypes := #[]
  resolved := Array.replicate 124 none
  statics := none }

def pool1 : Array CpInfo := pool [(2, .class_ 4), (1, u "java/lang/Object"), (0, u "<init>"), (0, u "()V"), (0, .class_ 8), (0, u "com/example/indexwright/indexwright/sql/ColumnType"), (0, .fieldref 7 10), (0, .nameAndType 11 12), (0, u "BIGINT"), (0, u "Lcom/example/indexwright/indexwright/sql/ColumnType;"), (0, .fieldref 7 14), (0, .nameAndType 15 12), (0, u "DOUBLE"), (0, .fieldref 7 17), (0, .nameAndType 18 12), (0, u "VARCHAR"), (0, .fieldref 7 20), (0, .nameAndType 21 12), (0, u "BIGINT_ARRAY"), (0, .fieldref 7 23), (0, .nameAndType 24 12), (0, u "DOUBLE_ARRAY"), (0, .fieldref 7 26), (0, .nameAndType 27 12), (0, u "VARCHAR_ARRAY"), (0, .integer 2147483647), (0, .methodref 7 30), (0, .nameAndType 31 32), (0, u "holds"), (0, u "(Lcom/example/indexwright/indexwright/sql/ColumnType;)Z"), (0, .class_ 34), (0, u "com/example/indexwright/indexwright/sql/ColumnTypeHoldsPinLaw"), (2, u "law"), (0, u "(II)Z")] 5

def k1m0 : Method := { name := "<init>", desc := "()V", sig := { parameters := [], returnType := none }, accessFlags := 2, code := none }
def k1c1 : Code := { maxStack := 4, maxLocals := 6, code := code, exceptionTable := #[], attributes := #[] }
def k1m1 : Method := { name := "law", desc := "(II)Z", sig := { parameters := [.int, .int], returnType := some .boolean }, accessFlags := 9, code := some k1c1 }
/-- com/example/indexwright/indexwright/sql/ColumnTypeHoldsPinLaw -/
def k1 : Class := { plain "com/example/indexwright/indexwright/sql/ColumnTypeHoldsPinLaw" (some 0) with
  accessFlags := 49
  interfaces := #[]
  cf := some (fileOf pool1 33 #[] #[{ accessFlags := 2, nameIndex := 5, descriptorIndex := 6, attributes := #[] }, { accessFlags := 9, nameIndex := 37, descriptorIndex := 38, attributes := #[] }] 49 2 #[] #[])
  fields := #[]
  methods := #[k1m0, k1m1]
  instanceTypes := #[]
  staticTypes := #[]
  resolved := Array.replicate 44 none
  statics := none }

def pool2 : Array CpInfo := pool [(1, .class_ 2), (0, u "java/lang/constant/Constable"), (0, .class_ 4), (0, u "java/lang/Object")] 6

/-- java/lang/constant/Constable -/
def k2 : Class := { plain "java/lang/constant/Constable" (some 0) with
  accessFlags := 1537
  interfaces := #[]
  cf := some (fileOf pool2 1 #[] #[] 1537 3 #[] #[])
  fields := #[]
  methods := #[]
  instanceTypes := #[]
  staticTypes := #[]
  resolved := Array.replicate 11 none
  statics := none }

def pool3 : Array CpInfo := pool [(1, .class_ 2), (0, u "java/lang/Comparable"), (0, .class_ 4), (0, u "java/lang/Object")] 7

/-- java/lang/Comparable -/
def k3 : Class := { plain "java/lang/Comparable" (some 0) with
  accessFlags := 1537
  interfaces := #[]
  cf := some (fileOf pool3 1 #[] #[] 1537 3 #[] #[])
  fields := #[]
  methods := #[]
  instanceTypes := #[]
  staticTypes := #[]
  resolved := Array.replicate 12 none
  statics := none }

def pool4 : Array CpInfo := pool [(1, .class_ 2), (0, u "java/io/Serializable"), (0, .class_ 4), (0, u "java/lang/Object")] 2

/-- java/io/Serializable -/
def k4 : Class := { plain "java/io/Serializable" (some 0) with
  accessFlags := 1537
  interfaces := #[]
  cf := some (fileOf pool4 1 #[] #[] 1537 3 #[] #[])
  fields := #[]
  methods := #[]
  instanceTypes := #[]
  staticTypes := #[]
  resolved := Array.replicate 7 none
  statics := none }

def pool5 : Array CpInfo := pool [(2, .class_ 4), (1, u "java/lang/Enum"), (0, u "name"), (0, u "Ljava/lang/String;"), (2, u "ordinal"), (0, u "I"), (1, .class_ 14), (1, u "java/lang/Object"), (4, u "hash"), (86, .class_ 108), (1, u "java/lang/Enum$EnumDesc"), (2, .class_ 112), (0, u "java/lang/constant/Constable"), (0, .class_ 114), (0, u "java/lang/Comparable"), (0, .class_ 116), (0, u "java/io/Serializable")] 87

/-- java/lang/Enum -/
def k5 : Class := { plain "java/lang/Enum" (some 0) with
  accessFlags := 1057
  interfaces := #[2, 3, 4]
  cf := some (fileOf pool5 2 #[.nestMembers #[106]] #[] 1057 12 #[111, 113, 115] #[{ accessFlags := 18, nameIndex := 5, descriptorIndex := 6, attributes := #[] }, { accessFlags := 18, nameIndex := 9, descriptorIndex := 10, attributes := #[] }, { accessFlags := 2, nameIndex := 19, descriptorIndex := 10, attributes := #[] }])
  fields := #[{ name := "name", type := (.object "java/lang/String"), accessFlags := 18, slot := 0, constantValue := 0 }, { name := "ordinal", type := .int, accessFlags := 18, slot := 1, constantValue := 0 }, { name := "hash", type := .int, accessFlags := 2, slot := 2, constantValue := 0 }]
  methods := #[]
  instanceTypes := #[(.object "java/lang/String"), .int, .int]
  staticTypes := #[]
  resolved := Array.replicate 204 none
  statics := none }

def pool6 : Array CpInfo := pool [(1, .class_ 2), (0, u "com/example/indexwright/indexwright/sql/ColumnType"), (0, .fieldref 1 4), (0, .nameAndType 5 6), (0, u "BIGINT"), (0, u "Lcom/example/indexwright/indexwright/sql/ColumnType;"), (0, .fieldref 1 8), (0, .nameAndType 9 6), (0, u "DOUBLE"), (2, u "VARCHAR"), (2, u "BIGINT_ARRAY"), (2, u "DOUBLE_ARRAY"), (2, u "VARCHAR_ARRAY"), (2, u "$VALUES"), (0, u "[Lcom/example/indexwright/indexwright/sql/ColumnType;"), (6, .class_ 34), (1, u "java/lang/Enum"), (6, .fieldref 1 42), (0, .nameAndType 43 6), (0, u "element"), (18, .methodref 1 63), (0, .nameAndType 64 65), (0, u "isArray"), (0, u "()Z"), (67, .methodref 1 134), (0, .nameAndType 135 136), (0, u "holds"), (0, u "(Lcom/example/indexwright/indexwright/sql/ColumnType;)Z")] 165

def k6c0 : Code := { maxStack := 1, maxLocals := 1, code := prog_54_method_5_code, exceptionTable := #[], attributes := #[] }
def k6m0 : Method := { name := "isArray", desc := "()Z", sig := { parameters := [], returnType := some .boolean }, accessFlags := 1, code := some k6c0 }
def k6c1 : Code := { maxStack := 2, maxLocals := 2, code := prog_54_method_14_code, exceptionTable := #[], attributes := #[] }
def k6m1 : Method := { name := "holds", desc := "(Lcom/example/indexwright/indexwright/sql/ColumnType;)Z", sig := { parameters := [(.object "com/example/indexwright/indexwright/sql/ColumnType")], returnType := some .boolean }, accessFlags := 1, code := some k6c1 }
/-- com/example/indexwright/indexwright/sql/ColumnType -/
def k6 : Class := { plain "com/example/indexwright/indexwright/sql/ColumnType" (some 5) with
  accessFlags := 16433
  interfaces := #[]
  cf := some (fileOf pool6 1 #[] #[{ accessFlags := 1, nameIndex := 64, descriptorIndex := 65, attributes := #[] }, { accessFlags := 1, nameIndex := 135, descriptorIndex := 136, attributes := #[] }] 16433 32 #[] #[{ accessFlags := 16409, nameIndex := 5, descriptorIndex := 6, attributes := #[] }, { accessFlags := 16409, nameIndex := 9, descriptorIndex := 6, attributes := #[] }, { accessFlags := 16409, nameIndex := 12, descriptorIndex := 6, attributes := #[] }, { accessFlags := 16409, nameIndex := 15, descriptorIndex := 6, attributes := #[] }, { accessFlags := 16409, nameIndex := 18, descriptorIndex := 6, attributes := #[] }, { accessFlags := 16409, nameIndex := 21, descriptorIndex := 6, attributes := #[] }, { accessFlags := 18, nameIndex := 43, descriptorIndex := 6, attributes := #[] }, { accessFlags := 4122, nameIndex := 24, descriptorIndex := 25, attributes := #[] }])
  fields := #[{ name := "BIGINT", type := (.object "com/example/indexwright/indexwright/sql/ColumnType"), accessFlags := 16409, slot := 0, constantValue := 0 }, { name := "DOUBLE", type := (.object "com/example/indexwright/indexwright/sql/ColumnType"), accessFlags := 16409, slot := 1, constantValue := 0 }, { name := "VARCHAR", type := (.object "com/example/indexwright/indexwright/sql/ColumnType"), accessFlags := 16409, slot := 2, constantValue := 0 }, { name := "BIGINT_ARRAY", type := (.object "com/example/indexwright/indexwright/sql/ColumnType"), accessFlags := 16409, slot := 3, constantValue := 0 }, { name := "DOUBLE_ARRAY", type := (.object "com/example/indexwright/indexwright/sql/ColumnType"), accessFlags := 16409, slot := 4, constantValue := 0 }, { name := "VARCHAR_ARRAY", type := (.object "com/example/indexwright/indexwright/sql/ColumnType"), accessFlags := 16409, slot := 5, constantValue := 0 }, { name := "element", type := (.object "com/example/indexwright/indexwright/sql/ColumnType"), accessFlags := 18, slot := 3, constantValue := 0 }, { name := "$VALUES", type := (.array (.object "com/example/indexwright/indexwright/sql/ColumnType")), accessFlags := 4122, slot := 6, constantValue := 0 }]
  methods := #[k6m0, k6m1]
  instanceTypes := #[(.object "java/lang/String"), .int, .int, (.object "com/example/indexwright/indexwright/sql/ColumnType")]
  staticTypes := #[(.object "com/example/indexwright/indexwright/sql/ColumnType"), (.object "com/example/indexwright/indexwright/sql/ColumnType"), (.object "com/example/indexwright/indexwright/sql/ColumnType"), (.object "com/example/indexwright/indexwright/sql/ColumnType"), (.object "com/example/indexwright/indexwright/sql/ColumnType"), (.object "com/example/indexwright/indexwright/sql/ColumnType"), (.array (.object "com/example/indexwright/indexwright/sql/ColumnType"))]
  resolved := Array.replicate 302 none
  statics := some 0 }

def pool7 : Array CpInfo := pool [(1, u "java/lang/Cloneable"), (0, .class_ 1), (0, u "java/lang/Object"), (0, .class_ 3)] 3

/-- java/lang/Cloneable -/
def k7 : Class := { plain "java/lang/Cloneable" (some 0) with
  accessFlags := 1537
  interfaces := #[]
  cf := some (fileOf pool7 2 #[] #[] 1537 4 #[] #[])
  fields := #[]
  methods := #[]
  instanceTypes := #[]
  staticTypes := #[]
  resolved := Array.replicate 8 none
  statics := none }

/-- the primitive byte -/
def k8 : Class := { plain "byte" none with kind := .primitive 'B', accessFlags := 0x411 }
/-- [B -/
def k9 : Class := { plain "[B" (some 0) with kind := .array 8 .byte, interfaces := #[7, 4], accessFlags := 1041 }

/-- the primitive int -/
def k10 : Class := { plain "int" none with kind := .primitive 'I', accessFlags := 0x411 }
/-- [I -/
def k11 : Class := { plain "[I" (some 0) with kind := .array 10 .int, interfaces := #[7, 4], accessFlags := 1041 }

/-- [Lcom/example/indexwright/indexwright/sql/ColumnType; -/
def k12 : Class := { plain "[Lcom/example/indexwright/indexwright/sql/ColumnType;" (some 0) with kind := .array 6 (.object "com/example/indexwright/indexwright/sql/ColumnType"), interfaces := #[7, 4], accessFlags := 1041 }

def heap : Heap := #[{ cls := 6, slots := #[.ref 1, .ref 2, .ref 3, .ref 4, .ref 5, .ref 6, .null], vm := .statics 6 },
  { cls := 6, slots := #[.null, .int 0, .int 0, .null], vm := .none },
  { cls := 6, slots := #[.null, .int 1, .int 0, .null], vm := .none },
  { cls := 6, slots := #[.null, .int 2, .int 0, .null], vm := .none },
  { cls := 6, slots := #[.null, .int 3, .int 0, .ref 1], vm := .none },
  { cls := 6, slots := #[.null, .int 4, .int 0, .ref 2], vm := .none },
  { cls := 6, slots := #[.null, .int 5, .int 0, .ref 3], vm := .none }]
def classes : Array Class := #[k0, k1, k2, k3, k4, k5, k6, k7, k8, k9, k10, k11, k12]
def interned : List (Array UInt16 × Addr) := []
def slotsUsed : Nat := 31
def theMethod : MethodId := ⟨1, 1⟩
def args0 : Array Value := #[.int 5, .int 6]
def aboutOver (below : List Frame) : State where
  vm := { classes := classes, interned := interned.toArray }
  heap := heap
  slotsUsed := slotsUsed
  threads := #[{ frames := .invoking theMethod args0 :: below }]
def below0 : List Frame := [.native { method := ⟨0, 0⟩, args := #[] }]
def about1 : State := aboutOver below0
def p0 : Program := .bare "" "" ""
def e0 : Env := launch0.env 0 0 0
theorem w_frames : about1.frames = Frame.invoking theMethod args0 :: below0 := rfl
set_option maxRecDepth 65536 in
theorem w_args : argsFit about1.vm theMethod args0 = true := by decide +kernel
set_option maxRecDepth 65536 in
theorem w_heap : heapFits about1 = true := by decide +kernel
set_option maxRecDepth 65536 in
theorem w_runnable : about1.curStatus? = some .runnable := by decide +kernel
set_option maxRecDepth 65536 in
theorem w_alone : about1.alone = true := by decide +kernel
set_option maxRecDepth 65536 in
theorem w_named : about1.methodNamed? x = some theMethod := by decide +kernel
set_option maxRecDepth 65536 in
theorem w_hears : about1.hears theMethod below0 = true := by decide +kernel
set_option maxRecDepth 65536 in
theorem w_ripe : about1.ripe theMethod args0 below0 = true := by decide +kernel
theorem w_running : about1.status = .running := rfl
set_option maxRecDepth 65536 in
theorem w_room : about1.hasRoom e0.platform room_1 = true :=
  launch0.hasRoom_least _ room_1 (by decide +kernel) (by decide +kernel) (by decide +kernel) (by decide +kernel) (by decide +kernel) (by decide +kernel)
theorem allAtoms_all (ts : List Jvm.Cond) (a : Array Jvm.Value) (st : Jvm.State) : (allAtoms ts).before a st = ts.all (fun c => c.before a st) := by
  induction ts with
  | nil => rfl
  | cons c t ih =>
    show (Jvm.Cond.and c (allAtoms t)).before a st = _
    rw [Jvm.Cond.before_and, ih, List.all_cons]
def words1 : List Jvm.Cond := Jvm.Cond.code x code maxLocals ret :: tables_1
/-- a 'code' word, met by the world's own term for the bytes: nothing is compared byte by byte -/
theorem code_word {y : MethodName} {bytes : ByteArray} {mx : Nat} {rt : Option FieldType} {a : Array Value} {s : State} {m : MethodId} {meth : Method} {c : Code} (h1 : s.methodNamed? y = some m) (h2 : s.vm.method? m = some meth) (h3 : meth.code = some c) (h4 : c.code = bytes)
    (h5 : (c.maxLocals == mx && c.exceptionTable.isEmpty && decide (c.maxStack ≤ mostOperands) && decide (meth.sig.returnType = rt) && !meth.locks && decide (parseMethodDescriptor y.desc = some meth.sig)) = true) : (Jvm.Cond.code y bytes mx rt).before a s = true := by
  simp only [Bool.and_eq_true, beq_iff_eq, Bool.not_eq_true', decide_eq_true_eq] at h5
  obtain ⟨⟨⟨⟨⟨g1, g2⟩, g3⟩, g4⟩, g5⟩, g6⟩ := h5
  simp [Cond.before, Cond.holds, Cond.value, h1, h2, h3, h4, g1, g2, g3, g4, g5, g6]
def isCode : Jvm.Cond → Bool
  | .code _ _ _ _ => true
  | _ => false
theorem all_split {L : List Jvm.Cond} {P : Jvm.Cond → Bool} (h1 : L.all (fun c => isCode c || P c) = true) (h2 : ∀ c ∈ L.filter isCode, P c = true) : L.all P = true := by
  refine List.all_eq_true.mpr fun c hc => ?_
  have h := List.all_eq_true.mp h1 c hc
  rcases Bool.eq_false_or_eq_true (isCode c) with hi | hi
  · exact h2 c (List.mem_filter.mpr ⟨hc, hi⟩)
  · simpa [hi] using h
set_option maxRecDepth 65536 in
theorem w_c0 : (Jvm.Cond.code x code maxLocals ret).before args0 about1 = true := code_word (m := ⟨1, 1⟩) (meth := k1m1) (c := k1c1) (by decide +kernel) rfl rfl rfl (by decide +kernel)
set_option maxRecDepth 65536 in
theorem w_c1 : (Jvm.Cond.code ({ cls := "com/example/indexwright/indexwright/sql/ColumnType", name := "holds", desc := "(Lcom/example/indexwright/indexwright/sql/ColumnType;)Z" } : Jvm.MethodName) prog_54_method_14_code (2 : Nat) (Option.some Jvm.ClassFile.FieldType.boolean)).before args0 about1 = true := code_word (m := ⟨6, 1⟩) (meth := k6m1) (c := k6c1) (by decide +kernel) rfl rfl rfl (by decide +kernel)
set_option maxRecDepth 65536 in
theorem w_c2 : (Jvm.Cond.code ({ cls := "com/example/indexwright/indexwright/sql/ColumnType", name := "isArray", desc := "()Z" } : Jvm.MethodName) prog_54_method_5_code (1 : Nat) (Option.some Jvm.ClassFile.FieldType.boolean)).before args0 about1 = true := code_word (m := ⟨6, 0⟩) (meth := k6m0) (c := k6c0) (by decide +kernel) rfl rfl rfl (by decide +kernel)
def codes1 : List Jvm.Cond := [Jvm.Cond.code x code maxLocals ret, Jvm.Cond.code ({ cls := "com/example/indexwright/indexwright/sql/ColumnType", name := "holds", desc := "(Lcom/example/indexwright/indexwright/sql/ColumnType;)Z" } : Jvm.MethodName) prog_54_method_14_code (2 : Nat) (Option.some Jvm.ClassFile.FieldType.boolean), Jvm.Cond.code ({ cls := "com/example/indexwright/indexwright/sql/ColumnType", name := "isArray", desc := "()Z" } : Jvm.MethodName) prog_54_method_5_code (1 : Nat) (Option.some Jvm.ClassFile.FieldType.boolean)]
set_option maxRecDepth 65536 in
theorem codes_eq : words1.filter isCode = codes1 := rfl
theorem w_codes : ∀ c ∈ words1.filter isCode, c.before args0 about1 = true := by
  rw [codes_eq]
  intro c hc
  simp only [codes1, List.mem_cons, List.not_mem_nil, or_false] at hc
  rcases hc with rfl | rfl | rfl
  · exact w_c0
  · exact w_c1
  · exact w_c2
set_option maxRecDepth 65536 in
theorem w_t1 : (words1.take 24).all (fun c => isCode c || c.before args0 about1) = true := by decide +kernel
set_option maxRecDepth 65536 in
theorem w_t2 : (words1.drop 24).all (fun c => isCode c || c.before args0 about1) = true := by decide +kernel
theorem w_tables : (allAtoms (Jvm.Cond.code x code maxLocals ret :: tables_1)).before args0 about1 = true := by
  rw [allAtoms_all]
  show words1.all (fun c => c.before args0 about1) = true
  refine all_split ?_ w_codes
  rw [← List.take_append_drop 24 words1, List.all_append, w_t1, w_t2]
  rfl
set_option maxRecDepth 65536 in
theorem w_case : (Jvm.Cond.and given_1 narrow_1).before args0 about1 = true := by decide +kernel
theorem w_applies : (headSpec (Jvm.Cond.code x code maxLocals ret :: tables_1) room_1).applies x e0.platform about1 = true :=
  (Spec.applies_iff w_frames).mpr ⟨w_running, w_runnable, w_alone, w_named, w_hears, w_ripe, w_room, w_tables⟩
theorem atStart : AtStart classFile x code maxLocals ret World_1 tables_1 room_1 Calls_1 rest_1 Pre_1 launch0 p0 e0 about1 theMethod args0 below0 :=
  ⟨lists_1, trivial, launch0.admits_env _ _ _, launch0.least_env, fairChoices_fair.cas, fairChoices_fair.clock, w_frames, w_args, w_heap, w_applies, trivial, trivial, w_case⟩
end start1
theorem witness_1 : WitnessClaimed_1 := ⟨start1.p0, start1.e0, start1.about1, start1.theMethod, start1.args0, start1.below0, start1.atStart⟩
end Jvm.Pilot.@@N@@
