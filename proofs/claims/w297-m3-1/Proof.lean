import JvmDerived
import JvmDerived.Pilot.@@N@@Statement
import JvmDerived.Pilot.@@N@@Code
set_option linter.unusedVariables false
set_option linter.unusedSimpArgs false
@@BLOCK:NumsL.lean.txt@@
namespace Jvm.Pilot.@@N@@
open Jvm Jvm.ClassFile Sem Op Lib Jvm.Free Jvm.Stand Jvm.LawKit Jvm.RoadKit Bundle Jvm.Pilot.@@N@@.Jvm.D
def OwnQ (r : Option Value) (h0 : Heap) (n0 : Nat) (v : Option Value) (h : Heap) (L : List Loc) : Prop := v = r ∧ Fr n0 L ∧ h = h0
theorem own_fldI {args : Array Value} {s : State} {t : Term} {a : Addr} {C n d : String} {v : Int32} (ev : t.eval args s none [] s = some (.ref a)) (h : (Cond.eq (Term.field t C n d) (Term.int v)).value args s none s [] = some true) : Fld s s.heap a C n d (.int v) := by
  obtain ⟨x, y, hx, hy, k1, k2⟩ := cmp_v (Or.inl h)
  have hy' : y = .int v := (Option.some.inj (hy.symm.trans (Term.int_eval v)))
  subst hy'
  obtain ⟨z, rfl⟩ := k2
  have e : z = v := by
    simp only [Cond.value, hx, hy] at h
    simpa using h
  subst e
  exact Fld.start ((fld_at ev).symm.trans hx)
theorem own_fldN {args : Array Value} {s : State} {t : Term} {a : Addr} {C n d : String} (ev : t.eval args s none [] s = some (.ref a)) (h : (Cond.eq (Term.field t C n d) Term.null).value args s none s [] = some true) : Fld s s.heap a C n d .null :=
  Fld.start ((fld_at ev).symm.trans (null_v h))
theorem own_fldR {args : Array Value} {s : State} {t u : Term} {a b : Addr} {C n d : String} (ev : t.eval args s none [] s = some (.ref a)) (eu : u.eval args s none [] s = some (.ref b)) (h : (Cond.eq (Term.field t C n d) u).value args s none s [] = some true) : Fld s s.heap a C n d (.ref b) := by
  obtain ⟨x, y, hx, hy, k1, k2⟩ := cmp_v (Or.inl h)
  have hy' : y = .ref b := (Option.some.inj (hy.symm.trans eu))
  subst hy'
  have hr : x.isRef = true := by cases x <;> simp_all [Kin, Value.isRef]
  have e : x = .ref b := gotT (eq_R hx hy hr rfl) h
  subst e
  exact Fld.start ((fld_at ev).symm.trans hx)
theorem own_k_n (k : Int32) (h0 : 0 ≤ k.toInt) (h1 : k.toInt < 8) : k = (0 : Int32) ∨ k = (1 : Int32) ∨ k = (2 : Int32) ∨ k = (3 : Int32) ∨ k = (4 : Int32) ∨ k = (5 : Int32) ∨ k = (6 : Int32) ∨ k = (7 : Int32) := by
  have h : k.toInt = 0 ∨ k.toInt = 1 ∨ k.toInt = 2 ∨ k.toInt = 3 ∨ k.toInt = 4 ∨ k.toInt = 5 ∨ k.toInt = 6 ∨ k.toInt = 7 := by omega
  rcases h with h | h | h | h | h | h | h | h
  · exact (Or.inl (Int32.toInt_inj.mp (h.trans (by decide))))
  · exact (Or.inr (Or.inl (Int32.toInt_inj.mp (h.trans (by decide)))))
  · exact (Or.inr (Or.inr (Or.inl (Int32.toInt_inj.mp (h.trans (by decide))))))
  · exact (Or.inr (Or.inr (Or.inr (Or.inl (Int32.toInt_inj.mp (h.trans (by decide)))))))
  · exact (Or.inr (Or.inr (Or.inr (Or.inr (Or.inl (Int32.toInt_inj.mp (h.trans (by decide))))))))
  · exact (Or.inr (Or.inr (Or.inr (Or.inr (Or.inr (Or.inl (Int32.toInt_inj.mp (h.trans (by decide)))))))))
  · exact (Or.inr (Or.inr (Or.inr (Or.inr (Or.inr (Or.inr (Or.inl (Int32.toInt_inj.mp (h.trans (by decide))))))))))
  · exact (Or.inr (Or.inr (Or.inr (Or.inr (Or.inr (Or.inr (Or.inr (Int32.toInt_inj.mp (h.trans (by decide))))))))))
theorem own_k (x : Int32) : x &&& (7 : Int32) = (0 : Int32) ∨ x &&& (7 : Int32) = (1 : Int32) ∨ x &&& (7 : Int32) = (2 : Int32) ∨ x &&& (7 : Int32) = (3 : Int32) ∨ x &&& (7 : Int32) = (4 : Int32) ∨ x &&& (7 : Int32) = (5 : Int32) ∨ x &&& (7 : Int32) = (6 : Int32) ∨ x &&& (7 : Int32) = (7 : Int32) := by
  have e := Jvm.Kit.i32_mask x (7 : Int32) (k := 3) (by decide) (by decide)
  exact own_k_n _ (by omega) (by omega)
theorem own_stak {Z : State} {h h' : Heap} {C n d : String} {v : Value} (F : Sta Z h C n d v) (K : Keep h h' []) : Sta Z h' C n d v := by
  obtain ⟨cf, i, k, f, st, cell, h1, h2, h3, h4, h5, h6, h7⟩ := F
  exact ⟨cf, i, k, f, st, cell, h1, h2, h3, h4, K.2.1 _ _ h5 nin0, h6, h7⟩
theorem d1_0 : decode prog_10_method_6_code 0 = .ok (.aload_n 0, 1) := by decide +kernel
theorem d1_1 : decode prog_10_method_6_code 1 = .ok (.getstatic 10, 3) := by decide +kernel
theorem d1_4 : decode prog_10_method_6_code 4 = .ok (.if_acmp .eq 10, 3) := by decide +kernel
theorem d1_14 : decode prog_10_method_6_code 14 = .ok (.iconst 1, 1) := by decide +kernel
theorem d1_15 : decode prog_10_method_6_code 15 = .ok (.goto 4, 3) := by decide +kernel
theorem d1_19 : decode prog_10_method_6_code 19 = .ok (.ireturn, 1) := by decide +kernel
theorem pn_1 : plainName "com/example/warning_recheck/warningrecheck/engine/LibraryFunction" = true := by first | (simp [plainName, overriddenIn]; done) | decide +kernel
theorem ef_1 (m : MethodId) (x0 : Addr) : entryFrame m #[(.ref x0)] 1 = mkF m 0 #[.val (.ref x0)] [] := by first | (simp [entryFrame, mkF, argsToLocals, Value.category]; done) | rfl
def Q1_t (Z : State) (a1 : Addr) (w2 : Addr) (h0 : Heap) (n0 : Nat) (v : Option Value) (h : Heap) (L : List Loc) : Prop := v = some (.int (1 : Int32)) ∧ Fr n0 L ∧ h = h0
set_option maxRecDepth 65536 in
set_option maxHeartbeats 40000000 in
theorem rm1_t (l : Launch) (Z : State) (a0 : Array Value) (hw : ∀ d ∈ tables_1, d.before a0 Z = true) (ws : List Jvm.Cond) (a1 : Addr) (w2 : Addr) (h0 : Heap) (n0 : Nat) (Z0 : n0 ≤ h0.size) (S_FREE : Sta Z h0 "com/example/warning_recheck/warningrecheck/engine/LibraryFunction" "FREE" "Lcom/example/warning_recheck/warningrecheck/engine/LibraryFunction;" (.ref w2)) (ha4 : a1 = w2) :
    MetFree l (⟨"com/example/warning_recheck/warningrecheck/engine/LibraryFunction", "frees", "()Z"⟩ : MethodName) (head1 (Jvm.Cond.code (⟨"com/example/warning_recheck/warningrecheck/engine/LibraryFunction", "frees", "()Z"⟩ : MethodName) prog_10_method_6_code 1 (some .boolean) :: ws) ({ frames := 0, cells := 0, slots := 0, locals := 0 } : Room)) (fun a U => a = #[(.ref a1)] ∧ Z.Warmed39 U.vm ∧ U.heap = h0) (fun _ _ _ _ _ => True) (fun _ U o U' => ∃ v L, o = .returned v ∧ Q1_t Z a1 w2 h0 n0 v U'.heap L ∧ FrameEnd U o U' L ({ frames := 0, cells := 0, slots := 0, locals := 0 } : Room).cells ({ frames := 0, cells := 0, slots := 0, locals := 0 } : Room).slots) := by
  refine MetFree.of_bodySF (plainFor_of_name pn_1) hisR ?_
  intro p e s m args below meth c s₁ Bd hml0 hP hK
  obtain ⟨rfl, hZ, hh⟩ := hP
  have hx := Bd.exec
  have hby := Bd.bytes
  have hml : c.maxLocals = 1 := hml0
  have hown : s.vm.findClass "com/example/warning_recheck/warningrecheck/engine/LibraryFunction" = some m.cls := findClass_of_methodNamed Bd.named
  have hnm := (name_of_methodNamed Bd.named Bd.method).1
  have X0 : Stand p l e ({ frames := 0, cells := 0, slots := 0, locals := 0 } : Room) s m #[(.ref a1)] below meth c s₁ [] 0 0 := Stand.of_body Bd
  have e0 : s₁.heap = h0 := by rw [← hh, Bd.state]; rfl
  have N0 := Fr.nil n0
  have pre0 : ∀ t, Steps p.tables e below (s₁.setTop (mkF m 0 #[.val (.ref a1)] [])) t → Steps p.tables e below (s₁.setTop (entryFrame m #[(.ref a1)] 1)) t := fun t k => castTop (ef_1 m a1) k
  -- 3. LAWS
  obtain ⟨T3, X3, e3, st3⟩ := getS2 X0 hx hZ hown (host := "") (Or.inl (hw _ (List.mem_of_getElem? (i := 25) rfl))) Via.refl e0 S_FREE (g := (mkF m 1 #[.val (.ref a1)] [(.ref a1)])) rfl (hb hby d1_1)
  obtain ⟨fs, hr, hrun, hended, hW, hsame⟩ := X3.leave (v := some (.int (1 : Int32))) (fun h => by rw [Bd.returns] at h; cases h)
  refine ⟨_, _, pre0 _ ?_, hrun, hended, _, _, rfl, ?_, ⟨_, rfl⟩, hW, hsame.mono (by decide) (by decide)⟩
  -- 4. STEPS
  · show Steps p.tables e below (s₁.setTop (mkF m 0 #[.val (.ref a1)] [])) _
    refine XS.aloadN X0.here hx rfl (hb hby d1_0) rfl rfl ?_
    show Steps p.tables e below (s₁.setTop (mkF m 1 #[.val (.ref a1)] [(.ref a1)])) _
    refine st3 _ ?_
    show Steps p.tables e below (T3.setTop (mkF m 4 #[.val (.ref a1)] [(.ref w2), (.ref a1)])) _
    refine Jvm.RoadKit.acmp (g := (mkF m 4 #[.val (.ref a1)] [(.ref w2), (.ref a1)])) X3 hx rfl rfl rfl (pc0 := 4) (pc' := 14) (same := true) rfl (hb hby d1_4) rfl (decide_eq_true (congrArg Value.ref ha4)) (by decide) (by decide) ?_
    show Steps p.tables e below (T3.setTop (mkF m 14 #[.val (.ref a1)] [])) _
    refine XS.iconst X3.here hx rfl (hb hby d1_14) ?_
    show Steps p.tables e below (T3.setTop (mkF m 15 #[.val (.ref a1)] [(.int (1 : Int32))])) _
    refine XS.goto X3.here hx rfl (pc0 := 15) (pc' := 19) rfl (hb hby d1_15) (by decide) (by decide) ?_
    show Steps p.tables e below (T3.setTop (mkF m 19 #[.val (.ref a1)] [(.int (1 : Int32))])) _
    exact retN X3 hx (t := .boolean) Bd.returns (by simp) (hb hby d1_19) hr
  · show Q1_t Z a1 w2 h0 n0 _ T3.heap _
    rw [e3]
    exact ⟨rfl, N0, rfl⟩
theorem d1_7 : decode prog_10_method_6_code 7 = .ok (.aload_n 0, 1) := by decide +kernel
theorem d1_8 : decode prog_10_method_6_code 8 = .ok (.getstatic 13, 3) := by decide +kernel
theorem d1_11 : decode prog_10_method_6_code 11 = .ok (.if_acmp .ne 7, 3) := by decide +kernel
def Q1_ff (Z : State) (a1 : Addr) (w2 : Addr) (w4 : Addr) (h0 : Heap) (n0 : Nat) (v : Option Value) (h : Heap) (L : List Loc) : Prop := v = some (.int (1 : Int32)) ∧ Fr n0 L ∧ h = h0
set_option maxRecDepth 65536 in
set_option maxHeartbeats 40000000 in
theorem rm1_ff (l : Launch) (Z : State) (a0 : Array Value) (hw : ∀ d ∈ tables_1, d.before a0 Z = true) (ws : List Jvm.Cond) (a1 : Addr) (w2 : Addr) (w4 : Addr) (h0 : Heap) (n0 : Nat) (Z0 : n0 ≤ h0.size) (S_FREE : Sta Z h0 "com/example/warning_recheck/warningrecheck/engine/LibraryFunction" "FREE" "Lcom/example/warning_recheck/warningrecheck/engine/LibraryFunction;" (.ref w2)) (S_REALLOC : Sta Z h0 "com/example/warning_recheck/warningrecheck/engine/LibraryFunction" "REALLOC" "Lcom/example/warning_recheck/warningrecheck/engine/LibraryFunction;" (.ref w4)) (ha4 : ¬ (a1 = w2)) (ha11 : a1 = w4) :
    MetFree l (⟨"com/example/warning_recheck/warningrecheck/engine/LibraryFunction", "frees", "()Z"⟩ : MethodName) (head1 (Jvm.Cond.code (⟨"com/example/warning_recheck/warningrecheck/engine/LibraryFunction", "frees", "()Z"⟩ : MethodName) prog_10_method_6_code 1 (some .boolean) :: ws) ({ frames := 0, cells := 0, slots := 0, locals := 0 } : Room)) (fun a U => a = #[(.ref a1)] ∧ Z.Warmed39 U.vm ∧ U.heap = h0) (fun _ _ _ _ _ => True) (fun _ U o U' => ∃ v L, o = .returned v ∧ Q1_ff Z a1 w2 w4 h0 n0 v U'.heap L ∧ FrameEnd U o U' L ({ frames := 0, cells := 0, slots := 0, locals := 0 } : Room).cells ({ frames := 0, cells := 0, slots := 0, locals := 0 } : Room).slots) := by
  refine MetFree.of_bodySF (plainFor_of_name pn_1) hisR ?_
  intro p e s m args below meth c s₁ Bd hml0 hP hK
  obtain ⟨rfl, hZ, hh⟩ := hP
  have hx := Bd.exec
  have hby := Bd.bytes
  have hml : c.maxLocals = 1 := hml0
  have hown : s.vm.findClass "com/example/warning_recheck/warningrecheck/engine/LibraryFunction" = some m.cls := findClass_of_methodNamed Bd.named
  have hnm := (name_of_methodNamed Bd.named Bd.method).1
  have X0 : Stand p l e ({ frames := 0, cells := 0, slots := 0, locals := 0 } : Room) s m #[(.ref a1)] below meth c s₁ [] 0 0 := Stand.of_body Bd
  have e0 : s₁.heap = h0 := by rw [← hh, Bd.state]; rfl
  have N0 := Fr.nil n0
  have pre0 : ∀ t, Steps p.tables e below (s₁.setTop (mkF m 0 #[.val (.ref a1)] [])) t → Steps p.tables e below (s₁.setTop (entryFrame m #[(.ref a1)] 1)) t := fun t k => castTop (ef_1 m a1) k
  -- 3. LAWS
  obtain ⟨T3, X3, e3, st3⟩ := getS2 X0 hx hZ hown (host := "") (Or.inl (hw _ (List.mem_of_getElem? (i := 25) rfl))) Via.refl e0 S_FREE (g := (mkF m 1 #[.val (.ref a1)] [(.ref a1)])) rfl (hb hby d1_1)
  obtain ⟨T5, X5, e5, st5⟩ := getS2 X3 hx hZ hown (host := "") (Or.inl (hw _ (List.mem_of_getElem? (i := 26) rfl))) Via.refl e3 S_REALLOC (g := (mkF m 8 #[.val (.ref a1)] [(.ref a1)])) rfl (hb hby d1_8)
  obtain ⟨fs, hr, hrun, hended, hW, hsame⟩ := X5.leave (v := some (.int (1 : Int32))) (fun h => by rw [Bd.returns] at h; cases h)
  refine ⟨_, _, pre0 _ ?_, hrun, hended, _, _, rfl, ?_, ⟨_, rfl⟩, hW, hsame.mono (by decide) (by decide)⟩
  -- 4. STEPS
  · show Steps p.tables e below (s₁.setTop (mkF m 0 #[.val (.ref a1)] [])) _
    refine XS.aloadN X0.here hx rfl (hb hby d1_0) rfl rfl ?_
    show Steps p.tables e below (s₁.setTop (mkF m 1 #[.val (.ref a1)] [(.ref a1)])) _
    refine st3 _ ?_
    show Steps p.tables e below (T3.setTop (mkF m 4 #[.val (.ref a1)] [(.ref w2), (.ref a1)])) _
    refine Jvm.RoadKit.acmp (g := (mkF m 4 #[.val (.ref a1)] [(.ref w2), (.ref a1)])) X3 hx rfl rfl rfl (pc0 := 4) (pc' := 7) (same := false) rfl (hb hby d1_4) rfl (decide_eq_false fun q => ha4 (Value.ref.inj q)) (by decide) (by decide) ?_
    show Steps p.tables e below (T3.setTop (mkF m 7 #[.val (.ref a1)] [])) _
    refine XS.aloadN X3.here hx rfl (hb hby d1_7) rfl rfl ?_
    show Steps p.tables e below (T3.setTop (mkF m 8 #[.val (.ref a1)] [(.ref a1)])) _
    refine st5 _ ?_
    show Steps p.tables e below (T5.setTop (mkF m 11 #[.val (.ref a1)] [(.ref w4), (.ref a1)])) _
    refine Jvm.RoadKit.acmp (g := (mkF m 11 #[.val (.ref a1)] [(.ref w4), (.ref a1)])) X5 hx rfl rfl rfl (pc0 := 11) (pc' := 14) (same := true) rfl (hb hby d1_11) rfl (decide_eq_true (congrArg Value.ref ha11)) (by decide) (by decide) ?_
    show Steps p.tables e below (T5.setTop (mkF m 14 #[.val (.ref a1)] [])) _
    refine XS.iconst X5.here hx rfl (hb hby d1_14) ?_
    show Steps p.tables e below (T5.setTop (mkF m 15 #[.val (.ref a1)] [(.int (1 : Int32))])) _
    refine XS.goto X5.here hx rfl (pc0 := 15) (pc' := 19) rfl (hb hby d1_15) (by decide) (by decide) ?_
    show Steps p.tables e below (T5.setTop (mkF m 19 #[.val (.ref a1)] [(.int (1 : Int32))])) _
    exact retN X5 hx (t := .boolean) Bd.returns (by simp) (hb hby d1_19) hr
  · show Q1_ff Z a1 w2 w4 h0 n0 _ T5.heap _
    rw [e5]
    exact ⟨rfl, N0, rfl⟩
theorem d1_18 : decode prog_10_method_6_code 18 = .ok (.iconst 0, 1) := by decide +kernel
def Q1_ft (Z : State) (a1 : Addr) (w2 : Addr) (w4 : Addr) (h0 : Heap) (n0 : Nat) (v : Option Value) (h : Heap) (L : List Loc) : Prop := v = some (.int (0 : Int32)) ∧ Fr n0 L ∧ h = h0
set_option maxRecDepth 65536 in
set_option maxHeartbeats 40000000 in
theorem rm1_ft (l : Launch) (Z : State) (a0 : Array Value) (hw : ∀ d ∈ tables_1, d.before a0 Z = true) (ws : List Jvm.Cond) (a1 : Addr) (w2 : Addr) (w4 : Addr) (h0 : Heap) (n0 : Nat) (Z0 : n0 ≤ h0.size) (S_FREE : Sta Z h0 "com/example/warning_recheck/warningrecheck/engine/LibraryFunction" "FREE" "Lcom/example/warning_recheck/warningrecheck/engine/LibraryFunction;" (.ref w2)) (S_REALLOC : Sta Z h0 "com/example/warning_recheck/warningrecheck/engine/LibraryFunction" "REALLOC" "Lcom/example/warning_recheck/warningrecheck/engine/LibraryFunction;" (.ref w4)) (ha4 : ¬ (a1 = w2)) (ha11 : ¬ (a1 = w4)) :
    MetFree l (⟨"com/example/warning_recheck/warningrecheck/engine/LibraryFunction", "frees", "()Z"⟩ : MethodName) (head1 (Jvm.Cond.code (⟨"com/example/warning_recheck/warningrecheck/engine/LibraryFunction", "frees", "()Z"⟩ : MethodName) prog_10_method_6_code 1 (some .boolean) :: ws) ({ frames := 0, cells := 0, slots := 0, locals := 0 } : Room)) (fun a U => a = #[(.ref a1)] ∧ Z.Warmed39 U.vm ∧ U.heap = h0) (fun _ _ _ _ _ => True) (fun _ U o U' => ∃ v L, o = .returned v ∧ Q1_ft Z a1 w2 w4 h0 n0 v U'.heap L ∧ FrameEnd U o U' L ({ frames := 0, cells := 0, slots := 0, locals := 0 } : Room).cells ({ frames := 0, cells := 0, slots := 0, locals := 0 } : Room).slots) := by
  refine MetFree.of_bodySF (plainFor_of_name pn_1) hisR ?_
  intro p e s m args below meth c s₁ Bd hml0 hP hK
  obtain ⟨rfl, hZ, hh⟩ := hP
  have hx := Bd.exec
  have hby := Bd.bytes
  have hml : c.maxLocals = 1 := hml0
  have hown : s.vm.findClass "com/example/warning_recheck/warningrecheck/engine/LibraryFunction" = some m.cls := findClass_of_methodNamed Bd.named
  have hnm := (name_of_methodNamed Bd.named Bd.method).1
  have X0 : Stand p l e ({ frames := 0, cells := 0, slots := 0, locals := 0 } : Room) s m #[(.ref a1)] below meth c s₁ [] 0 0 := Stand.of_body Bd
  have e0 : s₁.heap = h0 := by rw [← hh, Bd.state]; rfl
  have N0 := Fr.nil n0
  have pre0 : ∀ t, Steps p.tables e below (s₁.setTop (mkF m 0 #[.val (.ref a1)] [])) t → Steps p.tables e below (s₁.setTop (entryFrame m #[(.ref a1)] 1)) t := fun t k => castTop (ef_1 m a1) k
  -- 3. LAWS
  obtain ⟨T3, X3, e3, st3⟩ := getS2 X0 hx hZ hown (host := "") (Or.inl (hw _ (List.mem_of_getElem? (i := 25) rfl))) Via.refl e0 S_FREE (g := (mkF m 1 #[.val (.ref a1)] [(.ref a1)])) rfl (hb hby d1_1)
  obtain ⟨T5, X5, e5, st5⟩ := getS2 X3 hx hZ hown (host := "") (Or.inl (hw _ (List.mem_of_getElem? (i := 26) rfl))) Via.refl e3 S_REALLOC (g := (mkF m 8 #[.val (.ref a1)] [(.ref a1)])) rfl (hb hby d1_8)
  obtain ⟨fs, hr, hrun, hended, hW, hsame⟩ := X5.leave (v := some (.int (0 : Int32))) (fun h => by rw [Bd.returns] at h; cases h)
  refine ⟨_, _, pre0 _ ?_, hrun, hended, _, _, rfl, ?_, ⟨_, rfl⟩, hW, hsame.mono (by decide) (by decide)⟩
  -- 4. STEPS
  · show Steps p.tables e below (s₁.setTop (mkF m 0 #[.val (.ref a1)] [])) _
    refine XS.aloadN X0.here hx rfl (hb hby d1_0) rfl rfl ?_
    show Steps p.tables e below (s₁.setTop (mkF m 1 #[.val (.ref a1)] [(.ref a1)])) _
    refine st3 _ ?_
    show Steps p.tables e below (T3.setTop (mkF m 4 #[.val (.ref a1)] [(.ref w2), (.ref a1)])) _
    refine Jvm.RoadKit.acmp (g := (mkF m 4 #[.val (.ref a1)] [(.ref w2), (.ref a1)])) X3 hx rfl rfl rfl (pc0 := 4) (pc' := 7) (same := false) rfl (hb hby d1_4) rfl (decide_eq_false fun q => ha4 (Value.ref.inj q)) (by decide) (by decide) ?_
    show Steps p.tables e below (T3.setTop (mkF m 7 #[.val (.ref a1)] [])) _
    refine XS.aloadN X3.here hx rfl (hb hby d1_7) rfl rfl ?_
    show Steps p.tables e below (T3.setTop (mkF m 8 #[.val (.ref a1)] [(.ref a1)])) _
    refine st5 _ ?_
    show Steps p.tables e below (T5.setTop (mkF m 11 #[.val (.ref a1)] [(.ref w4), (.ref a1)])) _
    refine Jvm.RoadKit.acmp (g := (mkF m 11 #[.val (.ref a1)] [(.ref w4), (.ref a1)])) X5 hx rfl rfl rfl (pc0 := 11) (pc' := 18) (same := false) rfl (hb hby d1_11) rfl (decide_eq_false fun q => ha11 (Value.ref.inj q)) (by decide) (by decide) ?_
    show Steps p.tables e below (T5.setTop (mkF m 18 #[.val (.ref a1)] [])) _
    refine XS.iconst X5.here hx rfl (hb hby d1_18) ?_
    show Steps p.tables e below (T5.setTop (mkF m 19 #[.val (.ref a1)] [(.int (0 : Int32))])) _
    exact retN X5 hx (t := .boolean) Bd.returns (by simp) (hb hby d1_19) hr
  · show Q1_ft Z a1 w2 w4 h0 n0 _ T5.heap _
    rw [e5]
    exact ⟨rfl, N0, rfl⟩
def P1 (Z : State) (h0 : Heap) (a1 : Addr) (r : Option Value) : Prop := (∃ (w2 : Addr), (Sta Z h0 "com/example/warning_recheck/warningrecheck/engine/LibraryFunction" "FREE" "Lcom/example/warning_recheck/warningrecheck/engine/LibraryFunction;" (.ref w2)) ∧ (a1 = w2) ∧ r = some (.int (1 : Int32))) ∨ (∃ (w2 : Addr), ∃ (w4 : Addr), (Sta Z h0 "com/example/warning_recheck/warningrecheck/engine/LibraryFunction" "FREE" "Lcom/example/warning_recheck/warningrecheck/engine/LibraryFunction;" (.ref w2)) ∧ (Sta Z h0 "com/example/warning_recheck/warningrecheck/engine/LibraryFunction" "REALLOC" "Lcom/example/warning_recheck/warningrecheck/engine/LibraryFunction;" (.ref w4)) ∧ (¬ (a1 = w2)) ∧ (a1 = w4) ∧ r = some (.int (1 : Int32))) ∨ (∃ (w2 : Addr), ∃ (w4 : Addr), (Sta Z h0 "com/example/warning_recheck/warningrecheck/engine/LibraryFunction" "FREE" "Lcom/example/warning_recheck/warningrecheck/engine/LibraryFunction;" (.ref w2)) ∧ (Sta Z h0 "com/example/warning_recheck/warningrecheck/engine/LibraryFunction" "REALLOC" "Lcom/example/warning_recheck/warningrecheck/engine/LibraryFunction;" (.ref w4)) ∧ (¬ (a1 = w2)) ∧ (¬ (a1 = w4)) ∧ r = some (.int (0 : Int32)))
set_option maxRecDepth 65536 in
set_option maxHeartbeats 40000000 in
theorem own_1 (l : Launch) (Z : State) (a0 : Array Value) (hw : ∀ d ∈ tables_1, d.before a0 Z = true) (ws : List Jvm.Cond) (a1 : Addr) (r : Option Value) (h0 : Heap) (n0 : Nat) (Z0 : n0 ≤ h0.size) (hp : P1 Z h0 a1 r) :
    MetFree l (⟨"com/example/warning_recheck/warningrecheck/engine/LibraryFunction", "frees", "()Z"⟩ : MethodName) (head1 (Jvm.Cond.code (⟨"com/example/warning_recheck/warningrecheck/engine/LibraryFunction", "frees", "()Z"⟩ : MethodName) prog_10_method_6_code 1 (some .boolean) :: ws) ({ frames := 0, cells := 0, slots := 0, locals := 0 } : Room)) (fun a U => a = #[(.ref a1)] ∧ Z.Warmed39 U.vm ∧ U.heap = h0) (fun _ _ _ _ _ => True) (fun _ U o U' => ∃ v L, o = .returned v ∧ OwnQ r h0 n0 v U'.heap L ∧ FrameEnd U o U' L ({ frames := 0, cells := 0, slots := 0, locals := 0 } : Room).cells ({ frames := 0, cells := 0, slots := 0, locals := 0 } : Room).slots) := by
  rcases hp with ⟨w2, k0, k1, rfl⟩ | ⟨w2, w4, k0, k1, k2, k3, rfl⟩ | ⟨w2, w4, k0, k1, k2, k3, rfl⟩
  · exact rm1_t l Z a0 hw ws a1 w2 h0 n0 Z0 k0 k1
  · exact rm1_ff l Z a0 hw ws a1 w2 w4 h0 n0 Z0 k0 k1 k2 k3
  · exact rm1_ft l Z a0 hw ws a1 w2 w4 h0 n0 Z0 k0 k1 k2 k3
theorem P1_keep {Z : State} {h0 h : Heap} {a1 : Addr} {r : Option Value} (K : Keep h0 h []) (hp : P1 Z h0 a1 r) : P1 Z h a1 r := by
  rcases hp with ⟨w2, k0, k1, rfl⟩ | ⟨w2, w4, k0, k1, k2, k3, rfl⟩ | ⟨w2, w4, k0, k1, k2, k3, rfl⟩
  · exact (Or.inl ⟨w2, (own_stak k0 K), k1, rfl⟩)
  · exact (Or.inr (Or.inl ⟨w2, w4, (own_stak k0 K), (own_stak k1 K), k2, k3, rfl⟩))
  · exact (Or.inr (Or.inr ⟨w2, w4, (own_stak k0 K), (own_stak k1 K), k2, k3, rfl⟩))
theorem d2_0 : decode prog_10_method_7_code 0 = .ok (.aload_n 0, 1) := by decide +kernel
theorem d2_1 : decode prog_10_method_7_code 1 = .ok (.getstatic 16, 3) := by decide +kernel
theorem d2_4 : decode prog_10_method_7_code 4 = .ok (.if_acmp .eq 28, 3) := by decide +kernel
theorem d2_32 : decode prog_10_method_7_code 32 = .ok (.iconst 0, 1) := by decide +kernel
theorem d2_33 : decode prog_10_method_7_code 33 = .ok (.ireturn, 1) := by decide +kernel
theorem pn_2 : plainName "com/example/warning_recheck/warningrecheck/engine/LibraryFunction" = true := by first | (simp [plainName, overriddenIn]; done) | decide +kernel
theorem ef_2 (m : MethodId) (x0 : Addr) : entryFrame m #[(.ref x0)] 1 = mkF m 0 #[.val (.ref x0)] [] := by first | (simp [entryFrame, mkF, argsToLocals, Value.category]; done) | rfl
def Q2_t (Z : State) (a1 : Addr) (w2 : Addr) (h0 : Heap) (n0 : Nat) (v : Option Value) (h : Heap) (L : List Loc) : Prop := v = some (.int (0 : Int32)) ∧ Fr n0 L ∧ h = h0
set_option maxRecDepth 65536 in
set_option maxHeartbeats 40000000 in
theorem rm2_t (l : Launch) (Z : State) (a0 : Array Value) (hw : ∀ d ∈ tables_1, d.before a0 Z = true) (ws : List Jvm.Cond) (a1 : Addr) (w2 : Addr) (h0 : Heap) (n0 : Nat) (Z0 : n0 ≤ h0.size) (S_ABORT : Sta Z h0 "com/example/warning_recheck/warningrecheck/engine/LibraryFunction" "ABORT" "Lcom/example/warning_recheck/warningrecheck/engine/LibraryFunction;" (.ref w2)) (ha4 : a1 = w2) :
    MetFree l (⟨"com/example/warning_recheck/warningrecheck/engine/LibraryFunction", "returns", "()Z"⟩ : MethodName) (head1 (Jvm.Cond.code (⟨"com/example/warning_recheck/warningrecheck/engine/LibraryFunction", "returns", "()Z"⟩ : MethodName) prog_10_method_7_code 1 (some .boolean) :: ws) ({ frames := 0, cells := 0, slots := 0, locals := 0 } : Room)) (fun a U => a = #[(.ref a1)] ∧ Z.Warmed39 U.vm ∧ U.heap = h0) (fun _ _ _ _ _ => True) (fun _ U o U' => ∃ v L, o = .returned v ∧ Q2_t Z a1 w2 h0 n0 v U'.heap L ∧ FrameEnd U o U' L ({ frames := 0, cells := 0, slots := 0, locals := 0 } : Room).cells ({ frames := 0, cells := 0, slots := 0, locals := 0 } : Room).slots) := by
  refine MetFree.of_bodySF (plainFor_of_name pn_2) hisR ?_
  intro p e s m args below meth c s₁ Bd hml0 hP hK
  obtain ⟨rfl, hZ, hh⟩ := hP
  have hx := Bd.exec
  have hby := Bd.bytes
  have hml : c.maxLocals = 1 := hml0
  have hown : s.vm.findClass "com/example/warning_recheck/warningrecheck/engine/LibraryFunction" = some m.cls := findClass_of_methodNamed Bd.named
  have hnm := (name_of_methodNamed Bd.named Bd.method).1
  have X0 : Stand p l e ({ frames := 0, cells := 0, slots := 0, locals := 0 } : Room) s m #[(.ref a1)] below meth c s₁ [] 0 0 := Stand.of_body Bd
  have e0 : s₁.heap = h0 := by rw [← hh, Bd.state]; rfl
  have N0 := Fr.nil n0
  have pre0 : ∀ t, Steps p.tables e below (s₁.setTop (mkF m 0 #[.val (.ref a1)] [])) t → Steps p.tables e below (s₁.setTop (entryFrame m #[(.ref a1)] 1)) t := fun t k => castTop (ef_2 m a1) k
  -- 3. LAWS
  obtain ⟨T3, X3, e3, st3⟩ := getS2 X0 hx hZ hown (host := "") (Or.inl (hw _ (List.mem_of_getElem? (i := 32) rfl))) Via.refl e0 S_ABORT (g := (mkF m 1 #[.val (.ref a1)] [(.ref a1)])) rfl (hb hby d2_1)
  obtain ⟨fs, hr, hrun, hended, hW, hsame⟩ := X3.leave (v := some (.int (0 : Int32))) (fun h => by rw [Bd.returns] at h; cases h)
  refine ⟨_, _, pre0 _ ?_, hrun, hended, _, _, rfl, ?_, ⟨_, rfl⟩, hW, hsame.mono (by decide) (by decide)⟩
  -- 4. STEPS
  · show Steps p.tables e below (s₁.setTop (mkF m 0 #[.val (.ref a1)] [])) _
    refine XS.aloadN X0.here hx rfl (hb hby d2_0) rfl rfl ?_
    show Steps p.tables e below (s₁.setTop (mkF m 1 #[.val (.ref a1)] [(.ref a1)])) _
    refine st3 _ ?_
    show Steps p.tables e below (T3.setTop (mkF m 4 #[.val (.ref a1)] [(.ref w2), (.ref a1)])) _
    refine Jvm.RoadKit.acmp (g := (mkF m 4 #[.val (.ref a1)] [(.ref w2), (.ref a1)])) X3 hx rfl rfl rfl (pc0 := 4) (pc' := 32) (same := true) rfl (hb hby d2_4) rfl (decide_eq_true (congrArg Value.ref ha4)) (by decide) (by decide) ?_
    show Steps p.tables e below (T3.setTop (mkF m 32 #[.val (.ref a1)] [])) _
    refine XS.iconst X3.here hx rfl (hb hby d2_32) ?_
    show Steps p.tables e below (T3.setTop (mkF m 33 #[.val (.ref a1)] [(.int (0 : Int32))])) _
    exact retN X3 hx (t := .boolean) Bd.returns (by simp) (hb hby d2_33) hr
  · show Q2_t Z a1 w2 h0 n0 _ T3.heap _
    rw [e3]
    exact ⟨rfl, N0, rfl⟩
theorem d2_7 : decode prog_10_method_7_code 7 = .ok (.aload_n 0, 1) := by decide +kernel
theorem d2_8 : decode prog_10_method_7_code 8 = .ok (.getstatic 19, 3) := by decide +kernel
theorem d2_11 : decode prog_10_method_7_code 11 = .ok (.if_acmp .eq 21, 3) := by decide +kernel
def Q2_ft (Z : State) (a1 : Addr) (w2 : Addr) (w4 : Addr) (h0 : Heap) (n0 : Nat) (v : Option Value) (h : Heap) (L : List Loc) : Prop := v = some (.int (0 : Int32)) ∧ Fr n0 L ∧ h = h0
set_option maxRecDepth 65536 in
set_option maxHeartbeats 40000000 in
theorem rm2_ft (l : Launch) (Z : State) (a0 : Array Value) (hw : ∀ d ∈ tables_1, d.before a0 Z = true) (ws : List Jvm.Cond) (a1 : Addr) (w2 : Addr) (w4 : Addr) (h0 : Heap) (n0 : Nat) (Z0 : n0 ≤ h0.size) (S_ABORT : Sta Z h0 "com/example/warning_recheck/warningrecheck/engine/LibraryFunction" "ABORT" "Lcom/example/warning_recheck/warningrecheck/engine/LibraryFunction;" (.ref w2)) (S_EXIT : Sta Z h0 "com/example/warning_recheck/warningrecheck/engine/LibraryFunction" "EXIT" "Lcom/example/warning_recheck/warningrecheck/engine/LibraryFunction;" (.ref w4)) (ha4 : ¬ (a1 = w2)) (ha11 : a1 = w4) :
    MetFree l (⟨"com/example/warning_recheck/warningrecheck/engine/LibraryFunction", "returns", "()Z"⟩ : MethodName) (head1 (Jvm.Cond.code (⟨"com/example/warning_recheck/warningrecheck/engine/LibraryFunction", "returns", "()Z"⟩ : MethodName) prog_10_method_7_code 1 (some .boolean) :: ws) ({ frames := 0, cells := 0, slots := 0, locals := 0 } : Room)) (fun a U => a = #[(.ref a1)] ∧ Z.Warmed39 U.vm ∧ U.heap = h0) (fun _ _ _ _ _ => True) (fun _ U o U' => ∃ v L, o = .returned v ∧ Q2_ft Z a1 w2 w4 h0 n0 v U'.heap L ∧ FrameEnd U o U' L ({ frames := 0, cells := 0, slots := 0, locals := 0 } : Room).cells ({ frames := 0, cells := 0, slots := 0, locals := 0 } : Room).slots) := by
  refine MetFree.of_bodySF (plainFor_of_name pn_2) hisR ?_
  intro p e s m args below meth c s₁ Bd hml0 hP hK
  obtain ⟨rfl, hZ, hh⟩ := hP
  have hx := Bd.exec
  have hby := Bd.bytes
  have hml : c.maxLocals = 1 := hml0
  have hown : s.vm.findClass "com/example/warning_recheck/warningrecheck/engine/LibraryFunction" = some m.cls := findClass_of_methodNamed Bd.named
  have hnm := (name_of_methodNamed Bd.named Bd.method).1
  have X0 : Stand p l e ({ frames := 0, cells := 0, slots := 0, locals := 0 } : Room) s m #[(.ref a1)] below meth c s₁ [] 0 0 := Stand.of_body Bd
  have e0 : s₁.heap = h0 := by rw [← hh, Bd.state]; rfl
  have N0 := Fr.nil n0
  have pre0 : ∀ t, Steps p.tables e below (s₁.setTop (mkF m 0 #[.val (.ref a1)] [])) t → Steps p.tables e below (s₁.setTop (entryFrame m #[(.ref a1)] 1)) t := fun t k => castTop (ef_2 m a1) k
  -- 3. LAWS
  obtain ⟨T3, X3, e3, st3⟩ := getS2 X0 hx hZ hown (host := "") (Or.inl (hw _ (List.mem_of_getElem? (i := 32) rfl))) Via.refl e0 S_ABORT (g := (mkF m 1 #[.val (.ref a1)] [(.ref a1)])) rfl (hb hby d2_1)
  obtain ⟨T5, X5, e5, st5⟩ := getS2 X3 hx hZ hown (host := "") (Or.inl (hw _ (List.mem_of_getElem? (i := 33) rfl))) Via.refl e3 S_EXIT (g := (mkF m 8 #[.val (.ref a1)] [(.ref a1)])) rfl (hb hby d2_8)
  obtain ⟨fs, hr, hrun, hended, hW, hsame⟩ := X5.leave (v := some (.int (0 : Int32))) (fun h => by rw [Bd.returns] at h; cases h)
  refine ⟨_, _, pre0 _ ?_, hrun, hended, _, _, rfl, ?_, ⟨_, rfl⟩, hW, hsame.mono (by decide) (by decide)⟩
  -- 4. STEPS
  · show Steps p.tables e below (s₁.setTop (mkF m 0 #[.val (.ref a1)] [])) _
    refine XS.aloadN X0.here hx rfl (hb hby d2_0) rfl rfl ?_
    show Steps p.tables e below (s₁.setTop (mkF m 1 #[.val (.ref a1)] [(.ref a1)])) _
    refine st3 _ ?_
    show Steps p.tables e below (T3.setTop (mkF m 4 #[.val (.ref a1)] [(.ref w2), (.ref a1)])) _
    refine Jvm.RoadKit.acmp (g := (mkF m 4 #[.val (.ref a1)] [(.ref w2), (.ref a1)])) X3 hx rfl rfl rfl (pc0 := 4) (pc' := 7) (same := false) rfl (hb hby d2_4) rfl (decide_eq_false fun q => ha4 (Value.ref.inj q)) (by decide) (by decide) ?_
    show Steps p.tables e below (T3.setTop (mkF m 7 #[.val (.ref a1)] [])) _
    refine XS.aloadN X3.here hx rfl (hb hby d2_7) rfl rfl ?_
    show Steps p.tables e below (T3.setTop (mkF m 8 #[.val (.ref a1)] [(.ref a1)])) _
    refine st5 _ ?_
    show Steps p.tables e below (T5.setTop (mkF m 11 #[.val (.ref a1)] [(.ref w4), (.ref a1)])) _
    refine Jvm.RoadKit.acmp (g := (mkF m 11 #[.val (.ref a1)] [(.ref w4), (.ref a1)])) X5 hx rfl rfl rfl (pc0 := 11) (pc' := 32) (same := true) rfl (hb hby d2_11) rfl (decide_eq_true (congrArg Value.ref ha11)) (by decide) (by decide) ?_
    show Steps p.tables e below (T5.setTop (mkF m 32 #[.val (.ref a1)] [])) _
    refine XS.iconst X5.here hx rfl (hb hby d2_32) ?_
    show Steps p.tables e below (T5.setTop (mkF m 33 #[.val (.ref a1)] [(.int (0 : Int32))])) _
    exact retN X5 hx (t := .boolean) Bd.returns (by simp) (hb hby d2_33) hr
  · show Q2_ft Z a1 w2 w4 h0 n0 _ T5.heap _
    rw [e5]
    exact ⟨rfl, N0, rfl⟩
theorem d2_14 : decode prog_10_method_7_code 14 = .ok (.aload_n 0, 1) := by decide +kernel
theorem d2_15 : decode prog_10_method_7_code 15 = .ok (.getstatic 22, 3) := by decide +kernel
theorem d2_18 : decode prog_10_method_7_code 18 = .ok (.if_acmp .eq 14, 3) := by decide +kernel
def Q2_fft (Z : State) (a1 : Addr) (w2 : Addr) (w4 : Addr) (w6 : Addr) (h0 : Heap) (n0 : Nat) (v : Option Value) (h : Heap) (L : List Loc) : Prop := v = some (.int (0 : Int32)) ∧ Fr n0 L ∧ h = h0
set_option maxRecDepth 65536 in
set_option maxHeartbeats 40000000 in
theorem rm2_fft (l : Launch) (Z : State) (a0 : Array Value) (hw : ∀ d ∈ tables_1, d.before a0 Z = true) (ws : List Jvm.Cond) (a1 : Addr) (w2 : Addr) (w4 : Addr) (w6 : Addr) (h0 : Heap) (n0 : Nat) (Z0 : n0 ≤ h0.size) (S_ABORT : Sta Z h0 "com/example/warning_recheck/warningrecheck/engine/LibraryFunction" "ABORT" "Lcom/example/warning_recheck/warningrecheck/engine/LibraryFunction;" (.ref w2)) (S_EXIT : Sta Z h0 "com/example/warning_recheck/warningrecheck/engine/LibraryFunction" "EXIT" "Lcom/example/warning_recheck/warningrecheck/engine/LibraryFunction;" (.ref w4)) (S_IMMEDIATE_EXIT : Sta Z h0 "com/example/warning_recheck/warningrecheck/engine/LibraryFunction" "IMMEDIATE_EXIT" "Lcom/example/warning_recheck/warningrecheck/engine/LibraryFunction;" (.ref w6)) (ha4 : ¬ (a1 = w2)) (ha11 : ¬ (a1 = w4)) (ha18 : a1 = w6) :
    MetFree l (⟨"com/example/warning_recheck/warningrecheck/engine/LibraryFunction", "returns", "()Z"⟩ : MethodName) (head1 (Jvm.Cond.code (⟨"com/example/warning_recheck/warningrecheck/engine/LibraryFunction", "returns", "()Z"⟩ : MethodName) prog_10_method_7_code 1 (some .boolean) :: ws) ({ frames := 0, cells := 0, slots := 0, locals := 0 } : Room)) (fun a U => a = #[(.ref a1)] ∧ Z.Warmed39 U.vm ∧ U.heap = h0) (fun _ _ _ _ _ => True) (fun _ U o U' => ∃ v L, o = .returned v ∧ Q2_fft Z a1 w2 w4 w6 h0 n0 v U'.heap L ∧ FrameEnd U o U' L ({ frames := 0, cells := 0, slots := 0, locals := 0 } : Room).cells ({ frames := 0, cells := 0, slots := 0, locals := 0 } : Room).slots) := by
  refine MetFree.of_bodySF (plainFor_of_name pn_2) hisR ?_
  intro p e s m args below meth c s₁ Bd hml0 hP hK
  obtain ⟨rfl, hZ, hh⟩ := hP
  have hx := Bd.exec
  have hby := Bd.bytes
  have hml : c.maxLocals = 1 := hml0
  have hown : s.vm.findClass "com/example/warning_recheck/warningrecheck/engine/LibraryFunction" = some m.cls := findClass_of_methodNamed Bd.named
  have hnm := (name_of_methodNamed Bd.named Bd.method).1
  have X0 : Stand p l e ({ frames := 0, cells := 0, slots := 0, locals := 0 } : Room) s m #[(.ref a1)] below meth c s₁ [] 0 0 := Stand.of_body Bd
  have e0 : s₁.heap = h0 := by rw [← hh, Bd.state]; rfl
  have N0 := Fr.nil n0
  have pre0 : ∀ t, Steps p.tables e below (s₁.setTop (mkF m 0 #[.val (.ref a1)] [])) t → Steps p.tables e below (s₁.setTop (entryFrame m #[(.ref a1)] 1)) t := fun t k => castTop (ef_2 m a1) k
  -- 3. LAWS
  obtain ⟨T3, X3, e3, st3⟩ := getS2 X0 hx hZ hown (host := "") (Or.inl (hw _ (List.mem_of_getElem? (i := 32) rfl))) Via.refl e0 S_ABORT (g := (mkF m 1 #[.val (.ref a1)] [(.ref a1)])) rfl (hb hby d2_1)
  obtain ⟨T5, X5, e5, st5⟩ := getS2 X3 hx hZ hown (host := "") (Or.inl (hw _ (List.mem_of_getElem? (i := 33) rfl))) Via.refl e3 S_EXIT (g := (mkF m 8 #[.val (.ref a1)] [(.ref a1)])) rfl (hb hby d2_8)
  obtain ⟨T7, X7, e7, st7⟩ := getS2 X5 hx hZ hown (host := "") (Or.inl (hw _ (List.mem_of_getElem? (i := 34) rfl))) Via.refl e5 S_IMMEDIATE_EXIT (g := (mkF m 15 #[.val (.ref a1)] [(.ref a1)])) rfl (hb hby d2_15)
  obtain ⟨fs, hr, hrun, hended, hW, hsame⟩ := X7.leave (v := some (.int (0 : Int32))) (fun h => by rw [Bd.returns] at h; cases h)
  refine ⟨_, _, pre0 _ ?_, hrun, hended, _, _, rfl, ?_, ⟨_, rfl⟩, hW, hsame.mono (by decide) (by decide)⟩
  -- 4. STEPS
  · show Steps p.tables e below (s₁.setTop (mkF m 0 #[.val (.ref a1)] [])) _
    refine XS.aloadN X0.here hx rfl (hb hby d2_0) rfl rfl ?_
    show Steps p.tables e below (s₁.setTop (mkF m 1 #[.val (.ref a1)] [(.ref a1)])) _
    refine st3 _ ?_
    show Steps p.tables e below (T3.setTop (mkF m 4 #[.val (.ref a1)] [(.ref w2), (.ref a1)])) _
    refine Jvm.RoadKit.acmp (g := (mkF m 4 #[.val (.ref a1)] [(.ref w2), (.ref a1)])) X3 hx rfl rfl rfl (pc0 := 4) (pc' := 7) (same := false) rfl (hb hby d2_4) rfl (decide_eq_false fun q => ha4 (Value.ref.inj q)) (by decide) (by decide) ?_
    show Steps p.tables e below (T3.setTop (mkF m 7 #[.val (.ref a1)] [])) _
    refine XS.aloadN X3.here hx rfl (hb hby d2_7) rfl rfl ?_
    show Steps p.tables e below (T3.setTop (mkF m 8 #[.val (.ref a1)] [(.ref a1)])) _
    refine st5 _ ?_
    show Steps p.tables e below (T5.setTop (mkF m 11 #[.val (.ref a1)] [(.ref w4), (.ref a1)])) _
    refine Jvm.RoadKit.acmp (g := (mkF m 11 #[.val (.ref a1)] [(.ref w4), (.ref a1)])) X5 hx rfl rfl rfl (pc0 := 11) (pc' := 14) (same := false) rfl (hb hby d2_11) rfl (decide_eq_false fun q => ha11 (Value.ref.inj q)) (by decide) (by decide) ?_
    show Steps p.tables e below (T5.setTop (mkF m 14 #[.val (.ref a1)] [])) _
    refine XS.aloadN X5.here hx rfl (hb hby d2_14) rfl rfl ?_
    show Steps p.tables e below (T5.setTop (mkF m 15 #[.val (.ref a1)] [(.ref a1)])) _
    refine st7 _ ?_
    show Steps p.tables e below (T7.setTop (mkF m 18 #[.val (.ref a1)] [(.ref w6), (.ref a1)])) _
    refine Jvm.RoadKit.acmp (g := (mkF m 18 #[.val (.ref a1)] [(.ref w6), (.ref a1)])) X7 hx rfl rfl rfl (pc0 := 18) (pc' := 32) (same := true) rfl (hb hby d2_18) rfl (decide_eq_true (congrArg Value.ref ha18)) (by decide) (by decide) ?_
    show Steps p.tables e below (T7.setTop (mkF m 32 #[.val (.ref a1)] [])) _
    refine XS.iconst X7.here hx rfl (hb hby d2_32) ?_
    show Steps p.tables e below (T7.setTop (mkF m 33 #[.val (.ref a1)] [(.int (0 : Int32))])) _
    exact retN X7 hx (t := .boolean) Bd.returns (by simp) (hb hby d2_33) hr
  · show Q2_fft Z a1 w2 w4 w6 h0 n0 _ T7.heap _
    rw [e7]
    exact ⟨rfl, N0, rfl⟩
theorem d2_21 : decode prog_10_method_7_code 21 = .ok (.aload_n 0, 1) := by decide +kernel
theorem d2_22 : decode prog_10_method_7_code 22 = .ok (.getstatic 25, 3) := by decide +kernel
theorem d2_25 : decode prog_10_method_7_code 25 = .ok (.if_acmp .eq 7, 3) := by decide +kernel
theorem d2_28 : decode prog_10_method_7_code 28 = .ok (.iconst 1, 1) := by decide +kernel
theorem d2_29 : decode prog_10_method_7_code 29 = .ok (.goto 4, 3) := by decide +kernel
def Q2_ffff (Z : State) (a1 : Addr) (w2 : Addr) (w4 : Addr) (w6 : Addr) (w8 : Addr) (h0 : Heap) (n0 : Nat) (v : Option Value) (h : Heap) (L : List Loc) : Prop := v = some (.int (1 : Int32)) ∧ Fr n0 L ∧ h = h0
set_option maxRecDepth 65536 in
set_option maxHeartbeats 40000000 in
theorem rm2_ffff (l : Launch) (Z : State) (a0 : Array Value) (hw : ∀ d ∈ tables_1, d.before a0 Z = true) (ws : List Jvm.Cond) (a1 : Addr) (w2 : Addr) (w4 : Addr) (w6 : Addr) (w8 : Addr) (h0 : Heap) (n0 : Nat) (Z0 : n0 ≤ h0.size) (S_ABORT : Sta Z h0 "com/example/warning_recheck/warningrecheck/engine/LibraryFunction" "ABORT" "Lcom/example/warning_recheck/warningrecheck/engine/LibraryFunction;" (.ref w2)) (S_EXIT : Sta Z h0 "com/example/warning_recheck/warningrecheck/engine/LibraryFunction" "EXIT" "Lcom/example/warning_recheck/warningrecheck/engine/LibraryFunction;" (.ref w4)) (S_IMMEDIATE_EXIT : Sta Z h0 "com/example/warning_recheck/warningrecheck/engine/LibraryFunction" "IMMEDIATE_EXIT" "Lcom/example/warning_recheck/warningrecheck/engine/LibraryFunction;" (.ref w6)) (S_QUICK_EXIT : Sta Z h0 "com/example/warning_recheck/warningrecheck/engine/LibraryFunction" "QUICK_EXIT" "Lcom/example/warning_recheck/warningrecheck/engine/LibraryFunction;" (.ref w8)) (ha4 : ¬ (a1 = w2)) (ha11 : ¬ (a1 = w4)) (ha18 : ¬ (a1 = w6)) (ha25 : ¬ (a1 = w8)) :
    MetFree l (⟨"com/example/warning_recheck/warningrecheck/engine/LibraryFunction", "returns", "()Z"⟩ : MethodName) (head1 (Jvm.Cond.code (⟨"com/example/warning_recheck/warningrecheck/engine/LibraryFunction", "returns", "()Z"⟩ : MethodName) prog_10_method_7_code 1 (some .boolean) :: ws) ({ frames := 0, cells := 0, slots := 0, locals := 0 } : Room)) (fun a U => a = #[(.ref a1)] ∧ Z.Warmed39 U.vm ∧ U.heap = h0) (fun _ _ _ _ _ => True) (fun _ U o U' => ∃ v L, o = .returned v ∧ Q2_ffff Z a1 w2 w4 w6 w8 h0 n0 v U'.heap L ∧ FrameEnd U o U' L ({ frames := 0, cells := 0, slots := 0, locals := 0 } : Room).cells ({ frames := 0, cells := 0, slots := 0, locals := 0 } : Room).slots) := by
  refine MetFree.of_bodySF (plainFor_of_name pn_2) hisR ?_
  intro p e s m args below meth c s₁ Bd hml0 hP hK
  obtain ⟨rfl, hZ, hh⟩ := hP
  have hx := Bd.exec
  have hby := Bd.bytes
  have hml : c.maxLocals = 1 := hml0
  have hown : s.vm.findClass "com/example/warning_recheck/warningrecheck/engine/LibraryFunction" = some m.cls := findClass_of_methodNamed Bd.named
  have hnm := (name_of_methodNamed Bd.named Bd.method).1
  have X0 : Stand p l e ({ frames := 0, cells := 0, slots := 0, locals := 0 } : Room) s m #[(.ref a1)] below meth c s₁ [] 0 0 := Stand.of_body Bd
  have e0 : s₁.heap = h0 := by rw [← hh, Bd.state]; rfl
  have N0 := Fr.nil n0
  have pre0 : ∀ t, Steps p.tables e below (s₁.setTop (mkF m 0 #[.val (.ref a1)] [])) t → Steps p.tables e below (s₁.setTop (entryFrame m #[(.ref a1)] 1)) t := fun t k => castTop (ef_2 m a1) k
  -- 3. LAWS
  obtain ⟨T3, X3, e3, st3⟩ := getS2 X0 hx hZ hown (host := "") (Or.inl (hw _ (List.mem_of_getElem? (i := 32) rfl))) Via.refl e0 S_ABORT (g := (mkF m 1 #[.val (.ref a1)] [(.ref a1)])) rfl (hb hby d2_1)
  obtain ⟨T5, X5, e5, st5⟩ := getS2 X3 hx hZ hown (host := "") (Or.inl (hw _ (List.mem_of_getElem? (i := 33) rfl))) Via.refl e3 S_EXIT (g := (mkF m 8 #[.val (.ref a1)] [(.ref a1)])) rfl (hb hby d2_8)
  obtain ⟨T7, X7, e7, st7⟩ := getS2 X5 hx hZ hown (host := "") (Or.inl (hw _ (List.mem_of_getElem? (i := 34) rfl))) Via.refl e5 S_IMMEDIATE_EXIT (g := (mkF m 15 #[.val (.ref a1)] [(.ref a1)])) rfl (hb hby d2_15)
  obtain ⟨T9, X9, e9, st9⟩ := getS2 X7 hx hZ hown (host := "") (Or.inl (hw _ (List.mem_of_getElem? (i := 35) rfl))) Via.refl e7 S_QUICK_EXIT (g := (mkF m 22 #[.val (.ref a1)] [(.ref a1)])) rfl (hb hby d2_22)
  obtain ⟨fs, hr, hrun, hended, hW, hsame⟩ := X9.leave (v := some (.int (1 : Int32))) (fun h => by rw [Bd.returns] at h; cases h)
  refine ⟨_, _, pre0 _ ?_, hrun, hended, _, _, rfl, ?_, ⟨_, rfl⟩, hW, hsame.mono (by decide) (by decide)⟩
  -- 4. STEPS
  · show Steps p.tables e below (s₁.setTop (mkF m 0 #[.val (.ref a1)] [])) _
    refine XS.aloadN X0.here hx rfl (hb hby d2_0) rfl rfl ?_
    show Steps p.tables e below (s₁.setTop (mkF m 1 #[.val (.ref a1)] [(.ref a1)])) _
    refine st3 _ ?_
    show Steps p.tables e below (T3.setTop (mkF m 4 #[.val (.ref a1)] [(.ref w2), (.ref a1)])) _
    refine Jvm.RoadKit.acmp (g := (mkF m 4 #[.val (.ref a1)] [(.ref w2), (.ref a1)])) X3 hx rfl rfl rfl (pc0 := 4) (pc' := 7) (same := false) rfl (hb hby d2_4) rfl (decide_eq_false fun q => ha4 (Value.ref.inj q)) (by decide) (by decide) ?_
    show Steps p.tables e below (T3.setTop (mkF m 7 #[.val (.ref a1)] [])) _
    refine XS.aloadN X3.here hx rfl (hb hby d2_7) rfl rfl ?_
    show Steps p.tables e below (T3.setTop (mkF m 8 #[.val (.ref a1)] [(.ref a1)])) _
    refine st5 _ ?_
    show Steps p.tables e below (T5.setTop (mkF m 11 #[.val (.ref a1)] [(.ref w4), (.ref a1)])) _
    refine Jvm.RoadKit.acmp (g := (mkF m 11 #[.val (.ref a1)] [(.ref w4), (.ref a1)])) X5 hx rfl rfl rfl (pc0 := 11) (pc' := 14) (same := false) rfl (hb hby d2_11) rfl (decide_eq_false fun q => ha11 (Value.ref.inj q)) (by decide) (by decide) ?_
    show Steps p.tables e below (T5.setTop (mkF m 14 #[.val (.ref a1)] [])) _
    refine XS.aloadN X5.here hx rfl (hb hby d2_14) rfl rfl ?_
    show Steps p.tables e below (T5.setTop (mkF m 15 #[.val (.ref a1)] [(.ref a1)])) _
    refine st7 _ ?_
    show Steps p.tables e below (T7.setTop (mkF m 18 #[.val (.ref a1)] [(.ref w6), (.ref a1)])) _
    refine Jvm.RoadKit.acmp (g := (mkF m 18 #[.val (.ref a1)] [(.ref w6), (.ref a1)])) X7 hx rfl rfl rfl (pc0 := 18) (pc' := 21) (same := false) rfl (hb hby d2_18) rfl (decide_eq_false fun q => ha18 (Value.ref.inj q)) (by decide) (by decide) ?_
    show Steps p.tables e below (T7.setTop (mkF m 21 #[.val (.ref a1)] [])) _
    refine XS.aloadN X7.here hx rfl (hb hby d2_21) rfl rfl ?_
    show Steps p.tables e below (T7.setTop (mkF m 22 #[.val (.ref a1)] [(.ref a1)])) _
    refine st9 _ ?_
    show Steps p.tables e below (T9.setTop (mkF m 25 #[.val (.ref a1)] [(.ref w8), (.ref a1)])) _
    refine Jvm.RoadKit.acmp (g := (mkF m 25 #[.val (.ref a1)] [(.ref w8), (.ref a1)])) X9 hx rfl rfl rfl (pc0 := 25) (pc' := 28) (same := false) rfl (hb hby d2_25) rfl (decide_eq_false fun q => ha25 (Value.ref.inj q)) (by decide) (by decide) ?_
    show Steps p.tables e below (T9.setTop (mkF m 28 #[.val (.ref a1)] [])) _
    refine XS.iconst X9.here hx rfl (hb hby d2_28) ?_
    show Steps p.tables e below (T9.setTop (mkF m 29 #[.val (.ref a1)] [(.int (1 : Int32))])) _
    refine XS.goto X9.here hx rfl (pc0 := 29) (pc' := 33) rfl (hb hby d2_29) (by decide) (by decide) ?_
    show Steps p.tables e below (T9.setTop (mkF m 33 #[.val (.ref a1)] [(.int (1 : Int32))])) _
    exact retN X9 hx (t := .boolean) Bd.returns (by simp) (hb hby d2_33) hr
  · show Q2_ffff Z a1 w2 w4 w6 w8 h0 n0 _ T9.heap _
    rw [e9]
    exact ⟨rfl, N0, rfl⟩
def Q2_ffft (Z : State) (a1 : Addr) (w2 : Addr) (w4 : Addr) (w6 : Addr) (w8 : Addr) (h0 : Heap) (n0 : Nat) (v : Option Value) (h : Heap) (L : List Loc) : Prop := v = some (.int (0 : Int32)) ∧ Fr n0 L ∧ h = h0
set_option maxRecDepth 65536 in
set_option maxHeartbeats 40000000 in
theorem rm2_ffft (l : Launch) (Z : State) (a0 : Array Value) (hw : ∀ d ∈ tables_1, d.before a0 Z = true) (ws : List Jvm.Cond) (a1 : Addr) (w2 : Addr) (w4 : Addr) (w6 : Addr) (w8 : Addr) (h0 : Heap) (n0 : Nat) (Z0 : n0 ≤ h0.size) (S_ABORT : Sta Z h0 "com/example/warning_recheck/warningrecheck/engine/LibraryFunction" "ABORT" "Lcom/example/warning_recheck/warningrecheck/engine/LibraryFunction;" (.ref w2)) (S_EXIT : Sta Z h0 "com/example/warning_recheck/warningrecheck/engine/LibraryFunction" "EXIT" "Lcom/example/warning_recheck/warningrecheck/engine/LibraryFunction;" (.ref w4)) (S_IMMEDIATE_EXIT : Sta Z h0 "com/example/warning_recheck/warningrecheck/engine/LibraryFunction" "IMMEDIATE_EXIT" "Lcom/example/warning_recheck/warningrecheck/engine/LibraryFunction;" (.ref w6)) (S_QUICK_EXIT : Sta Z h0 "com/example/warning_recheck/warningrecheck/engine/LibraryFunction" "QUICK_EXIT" "Lcom/example/warning_recheck/warningrecheck/engine/LibraryFunction;" (.ref w8)) (ha4 : ¬ (a1 = w2)) (ha11 : ¬ (a1 = w4)) (ha18 : ¬ (a1 = w6)) (ha25 : a1 = w8) :
    MetFree l (⟨"com/example/warning_recheck/warningrecheck/engine/LibraryFunction", "returns", "()Z"⟩ : MethodName) (head1 (Jvm.Cond.code (⟨"com/example/warning_recheck/warningrecheck/engine/LibraryFunction", "returns", "()Z"⟩ : MethodName) prog_10_method_7_code 1 (some .boolean) :: ws) ({ frames := 0, cells := 0, slots := 0, locals := 0 } : Room)) (fun a U => a = #[(.ref a1)] ∧ Z.Warmed39 U.vm ∧ U.heap = h0) (fun _ _ _ _ _ => True) (fun _ U o U' => ∃ v L, o = .returned v ∧ Q2_ffft Z a1 w2 w4 w6 w8 h0 n0 v U'.heap L ∧ FrameEnd U o U' L ({ frames := 0, cells := 0, slots := 0, locals := 0 } : Room).cells ({ frames := 0, cells := 0, slots := 0, locals := 0 } : Room).slots) := by
  refine MetFree.of_bodySF (plainFor_of_name pn_2) hisR ?_
  intro p e s m args below meth c s₁ Bd hml0 hP hK
  obtain ⟨rfl, hZ, hh⟩ := hP
  have hx := Bd.exec
  have hby := Bd.bytes
  have hml : c.maxLocals = 1 := hml0
  have hown : s.vm.findClass "com/example/warning_recheck/warningrecheck/engine/LibraryFunction" = some m.cls := findClass_of_methodNamed Bd.named
  have hnm := (name_of_methodNamed Bd.named Bd.method).1
  have X0 : Stand p l e ({ frames := 0, cells := 0, slots := 0, locals := 0 } : Room) s m #[(.ref a1)] below meth c s₁ [] 0 0 := Stand.of_body Bd
  have e0 : s₁.heap = h0 := by rw [← hh, Bd.state]; rfl
  have N0 := Fr.nil n0
  have pre0 : ∀ t, Steps p.tables e below (s₁.setTop (mkF m 0 #[.val (.ref a1)] [])) t → Steps p.tables e below (s₁.setTop (entryFrame m #[(.ref a1)] 1)) t := fun t k => castTop (ef_2 m a1) k
  -- 3. LAWS
  obtain ⟨T3, X3, e3, st3⟩ := getS2 X0 hx hZ hown (host := "") (Or.inl (hw _ (List.mem_of_getElem? (i := 32) rfl))) Via.refl e0 S_ABORT (g := (mkF m 1 #[.val (.ref a1)] [(.ref a1)])) rfl (hb hby d2_1)
  obtain ⟨T5, X5, e5, st5⟩ := getS2 X3 hx hZ hown (host := "") (Or.inl (hw _ (List.mem_of_getElem? (i := 33) rfl))) Via.refl e3 S_EXIT (g := (mkF m 8 #[.val (.ref a1)] [(.ref a1)])) rfl (hb hby d2_8)
  obtain ⟨T7, X7, e7, st7⟩ := getS2 X5 hx hZ hown (host := "") (Or.inl (hw _ (List.mem_of_getElem? (i := 34) rfl))) Via.refl e5 S_IMMEDIATE_EXIT (g := (mkF m 15 #[.val (.ref a1)] [(.ref a1)])) rfl (hb hby d2_15)
  obtain ⟨T9, X9, e9, st9⟩ := getS2 X7 hx hZ hown (host := "") (Or.inl (hw _ (List.mem_of_getElem? (i := 35) rfl))) Via.refl e7 S_QUICK_EXIT (g := (mkF m 22 #[.val (.ref a1)] [(.ref a1)])) rfl (hb hby d2_22)
  obtain ⟨fs, hr, hrun, hended, hW, hsame⟩ := X9.leave (v := some (.int (0 : Int32))) (fun h => by rw [Bd.returns] at h; cases h)
  refine ⟨_, _, pre0 _ ?_, hrun, hended, _, _, rfl, ?_, ⟨_, rfl⟩, hW, hsame.mono (by decide) (by decide)⟩
  -- 4. STEPS
  · show Steps p.tables e below (s₁.setTop (mkF m 0 #[.val (.ref a1)] [])) _
    refine XS.aloadN X0.here hx rfl (hb hby d2_0) rfl rfl ?_
    show Steps p.tables e below (s₁.setTop (mkF m 1 #[.val (.ref a1)] [(.ref a1)])) _
    refine st3 _ ?_
    show Steps p.tables e below (T3.setTop (mkF m 4 #[.val (.ref a1)] [(.ref w2), (.ref a1)])) _
    refine Jvm.RoadKit.acmp (g := (mkF m 4 #[.val (.ref a1)] [(.ref w2), (.ref a1)])) X3 hx rfl rfl rfl (pc0 := 4) (pc' := 7) (same := false) rfl (hb hby d2_4) rfl (decide_eq_false fun q => ha4 (Value.ref.inj q)) (by decide) (by decide) ?_
    show Steps p.tables e below (T3.setTop (mkF m 7 #[.val (.ref a1)] [])) _
    refine XS.aloadN X3.here hx rfl (hb hby d2_7) rfl rfl ?_
    show Steps p.tables e below (T3.setTop (mkF m 8 #[.val (.ref a1)] [(.ref a1)])) _
    refine st5 _ ?_
    show Steps p.tables e below (T5.setTop (mkF m 11 #[.val (.ref a1)] [(.ref w4), (.ref a1)])) _
    refine Jvm.RoadKit.acmp (g := (mkF m 11 #[.val (.ref a1)] [(.ref w4), (.ref a1)])) X5 hx rfl rfl rfl (pc0 := 11) (pc' := 14) (same := false) rfl (hb hby d2_11) rfl (decide_eq_false fun q => ha11 (Value.ref.inj q)) (by decide) (by decide) ?_
    show Steps p.tables e below (T5.setTop (mkF m 14 #[.val (.ref a1)] [])) _
    refine XS.aloadN X5.here hx rfl (hb hby d2_14) rfl rfl ?_
    show Steps p.tables e below (T5.setTop (mkF m 15 #[.val (.ref a1)] [(.ref a1)])) _
    refine st7 _ ?_
    show Steps p.tables e below (T7.setTop (mkF m 18 #[.val (.ref a1)] [(.ref w6), (.ref a1)])) _
    refine Jvm.RoadKit.acmp (g := (mkF m 18 #[.val (.ref a1)] [(.ref w6), (.ref a1)])) X7 hx rfl rfl rfl (pc0 := 18) (pc' := 21) (same := false) rfl (hb hby d2_18) rfl (decide_eq_false fun q => ha18 (Value.ref.inj q)) (by decide) (by decide) ?_
    show Steps p.tables e below (T7.setTop (mkF m 21 #[.val (.ref a1)] [])) _
    refine XS.aloadN X7.here hx rfl (hb hby d2_21) rfl rfl ?_
    show Steps p.tables e below (T7.setTop (mkF m 22 #[.val (.ref a1)] [(.ref a1)])) _
    refine st9 _ ?_
    show Steps p.tables e below (T9.setTop (mkF m 25 #[.val (.ref a1)] [(.ref w8), (.ref a1)])) _
    refine Jvm.RoadKit.acmp (g := (mkF m 25 #[.val (.ref a1)] [(.ref w8), (.ref a1)])) X9 hx rfl rfl rfl (pc0 := 25) (pc' := 32) (same := true) rfl (hb hby d2_25) rfl (decide_eq_true (congrArg Value.ref ha25)) (by decide) (by decide) ?_
    show Steps p.tables e below (T9.setTop (mkF m 32 #[.val (.ref a1)] [])) _
    refine XS.iconst X9.here hx rfl (hb hby d2_32) ?_
    show Steps p.tables e below (T9.setTop (mkF m 33 #[.val (.ref a1)] [(.int (0 : Int32))])) _
    exact retN X9 hx (t := .boolean) Bd.returns (by simp) (hb hby d2_33) hr
  · show Q2_ffft Z a1 w2 w4 w6 w8 h0 n0 _ T9.heap _
    rw [e9]
    exact ⟨rfl, N0, rfl⟩
def P2 (Z : State) (h0 : Heap) (a1 : Addr) (r : Option Value) : Prop := (∃ (w2 : Addr), (Sta Z h0 "com/example/warning_recheck/warningrecheck/engine/LibraryFunction" "ABORT" "Lcom/example/warning_recheck/warningrecheck/engine/LibraryFunction;" (.ref w2)) ∧ (a1 = w2) ∧ r = some (.int (0 : Int32))) ∨ (∃ (w2 : Addr), ∃ (w4 : Addr), (Sta Z h0 "com/example/warning_recheck/warningrecheck/engine/LibraryFunction" "ABORT" "Lcom/example/warning_recheck/warningrecheck/engine/LibraryFunction;" (.ref w2)) ∧ (Sta Z h0 "com/example/warning_recheck/warningrecheck/engine/LibraryFunction" "EXIT" "Lcom/example/warning_recheck/warningrecheck/engine/LibraryFunction;" (.ref w4)) ∧ (¬ (a1 = w2)) ∧ (a1 = w4) ∧ r = some (.int (0 : Int32))) ∨ (∃ (w2 : Addr), ∃ (w4 : Addr), ∃ (w6 : Addr), (Sta Z h0 "com/example/warning_recheck/warningrecheck/engine/LibraryFunction" "ABORT" "Lcom/example/warning_recheck/warningrecheck/engine/LibraryFunction;" (.ref w2)) ∧ (Sta Z h0 "com/example/warning_recheck/warningrecheck/engine/LibraryFunction" "EXIT" "Lcom/example/warning_recheck/warningrecheck/engine/LibraryFunction;" (.ref w4)) ∧ (Sta Z h0 "com/example/warning_recheck/warningrecheck/engine/LibraryFunction" "IMMEDIATE_EXIT" "Lcom/example/warning_recheck/warningrecheck/engine/LibraryFunction;" (.ref w6)) ∧ (¬ (a1 = w2)) ∧ (¬ (a1 = w4)) ∧ (a1 = w6) ∧ r = some (.int (0 : Int32))) ∨ (∃ (w2 : Addr), ∃ (w4 : Addr), ∃ (w6 : Addr), ∃ (w8 : Addr), (Sta Z h0 "com/example/warning_recheck/warningrecheck/engine/LibraryFunction" "ABORT" "Lcom/example/warning_recheck/warningrecheck/engine/LibraryFunction;" (.ref w2)) ∧ (Sta Z h0 "com/example/warning_recheck/warningrecheck/engine/LibraryFunction" "EXIT" "Lcom/example/warning_recheck/warningrecheck/engine/LibraryFunction;" (.ref w4)) ∧ (Sta Z h0 "com/example/warning_recheck/warningrecheck/engine/LibraryFunction" "IMMEDIATE_EXIT" "Lcom/example/warning_recheck/warningrecheck/engine/LibraryFunction;" (.ref w6)) ∧ (Sta Z h0 "com/example/warning_recheck/warningrecheck/engine/LibraryFunction" "QUICK_EXIT" "Lcom/example/warning_recheck/warningrecheck/engine/LibraryFunction;" (.ref w8)) ∧ (¬ (a1 = w2)) ∧ (¬ (a1 = w4)) ∧ (¬ (a1 = w6)) ∧ (¬ (a1 = w8)) ∧ r = some (.int (1 : Int32))) ∨ (∃ (w2 : Addr), ∃ (w4 : Addr), ∃ (w6 : Addr), ∃ (w8 : Addr), (Sta Z h0 "com/example/warning_recheck/warningrecheck/engine/LibraryFunction" "ABORT" "Lcom/example/warning_recheck/warningrecheck/engine/LibraryFunction;" (.ref w2)) ∧ (Sta Z h0 "com/example/warning_recheck/warningrecheck/engine/LibraryFunction" "EXIT" "Lcom/example/warning_recheck/warningrecheck/engine/LibraryFunction;" (.ref w4)) ∧ (Sta Z h0 "com/example/warning_recheck/warningrecheck/engine/LibraryFunction" "IMMEDIATE_EXIT" "Lcom/example/warning_recheck/warningrecheck/engine/LibraryFunction;" (.ref w6)) ∧ (Sta Z h0 "com/example/warning_recheck/warningrecheck/engine/LibraryFunction" "QUICK_EXIT" "Lcom/example/warning_recheck/warningrecheck/engine/LibraryFunction;" (.ref w8)) ∧ (¬ (a1 = w2)) ∧ (¬ (a1 = w4)) ∧ (¬ (a1 = w6)) ∧ (a1 = w8) ∧ r = some (.int (0 : Int32)))
set_option maxRecDepth 65536 in
set_option maxHeartbeats 40000000 in
theorem own_2 (l : Launch) (Z : State) (a0 : Array Value) (hw : ∀ d ∈ tables_1, d.before a0 Z = true) (ws : List Jvm.Cond) (a1 : Addr) (r : Option Value) (h0 : Heap) (n0 : Nat) (Z0 : n0 ≤ h0.size) (hp : P2 Z h0 a1 r) :
    MetFree l (⟨"com/example/warning_recheck/warningrecheck/engine/LibraryFunction", "returns", "()Z"⟩ : MethodName) (head1 (Jvm.Cond.code (⟨"com/example/warning_recheck/warningrecheck/engine/LibraryFunction", "returns", "()Z"⟩ : MethodName) prog_10_method_7_code 1 (some .boolean) :: ws) ({ frames := 0, cells := 0, slots := 0, locals := 0 } : Room)) (fun a U => a = #[(.ref a1)] ∧ Z.Warmed39 U.vm ∧ U.heap = h0) (fun _ _ _ _ _ => True) (fun _ U o U' => ∃ v L, o = .returned v ∧ OwnQ r h0 n0 v U'.heap L ∧ FrameEnd U o U' L ({ frames := 0, cells := 0, slots := 0, locals := 0 } : Room).cells ({ frames := 0, cells := 0, slots := 0, locals := 0 } : Room).slots) := by
  rcases hp with ⟨w2, k0, k1, rfl⟩ | ⟨w2, w4, k0, k1, k2, k3, rfl⟩ | ⟨w2, w4, w6, k0, k1, k2, k3, k4, k5, rfl⟩ | ⟨w2, w4, w6, w8, k0, k1, k2, k3, k4, k5, k6, k7, rfl⟩ | ⟨w2, w4, w6, w8, k0, k1, k2, k3, k4, k5, k6, k7, rfl⟩
  · exact rm2_t l Z a0 hw ws a1 w2 h0 n0 Z0 k0 k1
  · exact rm2_ft l Z a0 hw ws a1 w2 w4 h0 n0 Z0 k0 k1 k2 k3
  · exact rm2_fft l Z a0 hw ws a1 w2 w4 w6 h0 n0 Z0 k0 k1 k2 k3 k4 k5
  · exact rm2_ffff l Z a0 hw ws a1 w2 w4 w6 w8 h0 n0 Z0 k0 k1 k2 k3 k4 k5 k6 k7
  · exact rm2_ffft l Z a0 hw ws a1 w2 w4 w6 w8 h0 n0 Z0 k0 k1 k2 k3 k4 k5 k6 k7
theorem P2_keep {Z : State} {h0 h : Heap} {a1 : Addr} {r : Option Value} (K : Keep h0 h []) (hp : P2 Z h0 a1 r) : P2 Z h a1 r := by
  rcases hp with ⟨w2, k0, k1, rfl⟩ | ⟨w2, w4, k0, k1, k2, k3, rfl⟩ | ⟨w2, w4, w6, k0, k1, k2, k3, k4, k5, rfl⟩ | ⟨w2, w4, w6, w8, k0, k1, k2, k3, k4, k5, k6, k7, rfl⟩ | ⟨w2, w4, w6, w8, k0, k1, k2, k3, k4, k5, k6, k7, rfl⟩
  · exact (Or.inl ⟨w2, (own_stak k0 K), k1, rfl⟩)
  · exact (Or.inr (Or.inl ⟨w2, w4, (own_stak k0 K), (own_stak k1 K), k2, k3, rfl⟩))
  · exact (Or.inr (Or.inr (Or.inl ⟨w2, w4, w6, (own_stak k0 K), (own_stak k1 K), (own_stak k2 K), k3, k4, k5, rfl⟩)))
  · exact (Or.inr (Or.inr (Or.inr (Or.inl ⟨w2, w4, w6, w8, (own_stak k0 K), (own_stak k1 K), (own_stak k2 K), (own_stak k3 K), k4, k5, k6, k7, rfl⟩))))
  · exact (Or.inr (Or.inr (Or.inr (Or.inr ⟨w2, w4, w6, w8, (own_stak k0 K), (own_stak k1 K), (own_stak k2 K), (own_stak k3 K), k4, k5, k6, k7, rfl⟩))))
theorem pn_0 : plainName "com/example/warning_recheck/warningrecheck/engine/LibraryFunctionFreesPinLaw" = true := by first | (simp [plainName, overriddenIn]; done) | decide +kernel
theorem pd_0_0 : parseMethodDescriptor "()Z" = some ⟨[], some .boolean⟩ := by decide +kernel
theorem ef_0 (m : MethodId) (x0 : Int32) : entryFrame m #[(.int x0)] maxLocals = mkF m 0 #[.val (.int x0), .unset, .unset, .unset, .unset, .unset] [] := by first | (simp [entryFrame, mkF, argsToLocals, Value.category, maxLocals]; done) | rfl
def Q0_tttt (Z : State) (p1 : Int32) (w3 : Addr) (w6 : Addr) (w9 : Addr) (w12 : Addr) (w15 : Addr) (w18 : Addr) (w21 : Addr) (w24 : Addr) (w27 : Addr) (h0 : Heap) (n0 : Nat) (v : Option Value) (h : Heap) (L : List Loc) : Prop := v = some (.int (1 : Int32)) ∧ Fr n0 L
set_option maxRecDepth 65536 in
set_option maxHeartbeats 40000000 in
theorem rm0_tttt (l : Launch) (Z : State) (a0 : Array Value) (hw : ∀ d ∈ tables_1, d.before a0 Z = true) (ws : List Jvm.Cond) (p1 : Int32) (w3 : Addr) (w6 : Addr) (w9 : Addr) (w12 : Addr) (w15 : Addr) (w18 : Addr) (w21 : Addr) (w24 : Addr) (w27 : Addr) (r30 : Int32) (h0 : Heap) (n0 : Nat) (Z0 : n0 ≤ h0.size) (S_MALLOC : Sta Z h0 "com/example/warning_recheck/warningrecheck/engine/LibraryFunction" "MALLOC" "Lcom/example/warning_recheck/warningrecheck/engine/LibraryFunction;" (.ref w3)) (S_CALLOC : Sta Z h0 "com/example/warning_recheck/warningrecheck/engine/LibraryFunction" "CALLOC" "Lcom/example/warning_recheck/warningrecheck/engine/LibraryFunction;" (.ref w6)) (S_FREE : Sta Z h0 "com/example/warning_recheck/warningrecheck/engine/LibraryFunction" "FREE" "Lcom/example/warning_recheck/warningrecheck/engine/LibraryFunction;" (.ref w9)) (S_REALLOC : Sta Z h0 "com/example/warning_recheck/warningrecheck/engine/LibraryFunction" "REALLOC" "Lcom/example/warning_recheck/warningrecheck/engine/LibraryFunction;" (.ref w12)) (S_ABORT : Sta Z h0 "com/example/warning_recheck/warningrecheck/engine/LibraryFunction" "ABORT" "Lcom/example/warning_recheck/warningrecheck/engine/LibraryFunction;" (.ref w15)) (S_EXIT : Sta Z h0 "com/example/warning_recheck/warningrecheck/engine/LibraryFunction" "EXIT" "Lcom/example/warning_recheck/warningrecheck/engine/LibraryFunction;" (.ref w18)) (S_IMMEDIATE_EXIT : Sta Z h0 "com/example/warning_recheck/warningrecheck/engine/LibraryFunction" "IMMEDIATE_EXIT" "Lcom/example/warning_recheck/warningrecheck/engine/LibraryFunction;" (.ref w21)) (S_QUICK_EXIT : Sta Z h0 "com/example/warning_recheck/warningrecheck/engine/LibraryFunction" "QUICK_EXIT" "Lcom/example/warning_recheck/warningrecheck/engine/LibraryFunction;" (.ref w24)) (E_w27 : Exa Z h0 w27 "com/example/warning_recheck/warningrecheck/engine/LibraryFunction") (ha72 : ¬ (w27 = w9)) (ha82 : ¬ (w27 = w12)) (E_w3 : Exa Z h0 w3 "com/example/warning_recheck/warningrecheck/engine/LibraryFunction") (E_w6 : Exa Z h0 w6 "com/example/warning_recheck/warningrecheck/engine/LibraryFunction") (E_w9 : Exa Z h0 w9 "com/example/warning_recheck/warningrecheck/engine/LibraryFunction") (E_w12 : Exa Z h0 w12 "com/example/warning_recheck/warningrecheck/engine/LibraryFunction") (E_w15 : Exa Z h0 w15 "com/example/warning_recheck/warningrecheck/engine/LibraryFunction") (E_w18 : Exa Z h0 w18 "com/example/warning_recheck/warningrecheck/engine/LibraryFunction") (E_w21 : Exa Z h0 w21 "com/example/warning_recheck/warningrecheck/engine/LibraryFunction") (E_w24 : Exa Z h0 w24 "com/example/warning_recheck/warningrecheck/engine/LibraryFunction") (hj63 : ¬ (p1 &&& (7 : Int32)) < 0 ∧ (p1 &&& (7 : Int32)) < (8 : Int32)) (hu63 : ([(.ref w3), (.ref w6), (.ref w9), (.ref w12), (.ref w15), (.ref w18), (.ref w21), (.ref w24)] : List Value).getD ((p1 &&& (7 : Int32))).toNatClampNeg .null = (.ref w27)) (hP30 : P1 Z h0 w27 (some (.int r30))) (hx1 : r30 = (0 : Int32)) (hx2 : r30 = (0 : Int32)) :
    MetFree l x (head1 (Jvm.Cond.code x code maxLocals ret :: ws) room_1) (fun a U => a = #[(.int p1)] ∧ Z.Warmed39 U.vm ∧ U.heap = h0) (fun _ _ _ _ _ => True) (fun _ U o U' => ∃ v L, o = .returned v ∧ Q0_tttt Z p1 w3 w6 w9 w12 w15 w18 w21 w24 w27 h0 n0 v U'.heap L ∧ FrameEnd U o U' L room_1.cells room_1.slots) := by
  refine MetFree.of_bodySF (plainFor_of_name pn_0) hisR ?_
  intro p e s m args below meth c s₁ Bd hml0 hP hK
  obtain ⟨rfl, hZ, hh⟩ := hP
  have hx := Bd.exec
  have hby := Bd.bytes
  have hml : c.maxLocals = 6 := hml0
  have hown : s.vm.findClass "com/example/warning_recheck/warningrecheck/engine/LibraryFunctionFreesPinLaw" = some m.cls := findClass_of_methodNamed Bd.named
  have hnm := (name_of_methodNamed Bd.named Bd.method).1
  have X0 : Stand p l e room_1 s m #[(.int p1)] below meth c s₁ [] 0 0 := Stand.of_body Bd
  have e0 : s₁.heap = h0 := by rw [← hh, Bd.state]; rfl
  have N0 := Fr.nil n0
  have pre0 : ∀ t, Steps p.tables e below (s₁.setTop (mkF m 0 #[.val (.int p1), .unset, .unset, .unset, .unset, .unset] [])) t → Steps p.tables e below (s₁.setTop (entryFrame m #[(.int p1)] maxLocals)) t := fun t k => castTop (ef_0 m p1) k
  -- 3. LAWS
  obtain ⟨T2, h2, k2, X2, e2, E2, A2, O2, st2⟩ := newR X0 hx hZ hown (hw _ (List.mem_of_getElem? (i := 0) rfl)) (hw _ (List.mem_of_getElem? (i := 1) rfl)) e0 (g := (mkF m 2 #[.val (.int p1), .unset, .unset, .unset, .unset, .unset] [(.int (8 : Int32))])) rfl (hb hby at_2) rfl (by decide) (cap := 8) (by decide) (by decide) (by decide) (by decide)
  obtain ⟨b2, g2⟩ : ∃ z, z = h0.size := ⟨_, rfl⟩      -- the fresh array's address
  rw [← g2] at A2 st2
  have V_b2 : Arv Z h2 b2 k2 (.object "com/example/warning_recheck/warningrecheck/engine/LibraryFunction") (8 : Int32) [.null, .null, .null, .null, .null, .null, .null, .null] .null := (Arv.new A2 (by decide)).pad (pad_rep [] .null 8)
  have g_b2 : n0 ≤ b2 := Nat.le_trans Z0 (Nat.le_of_eq g2.symm)
  have sz_b2 : h0.size ≤ b2 := (Nat.le_trans (Keep.refl h0 []).1 (Nat.le_of_eq g2.symm))
  have K2 : Keep h0 h2 [] := (Keep.refl h0 []).ext E2
  obtain ⟨T4, X4, e4, st4⟩ := getS2 X2 hx hZ hown (host := "") (Or.inl (hw _ (List.mem_of_getElem? (i := 2) rfl))) Via.refl e2 (own_stak S_MALLOC K2) (g := (mkF m 7 #[.val (.int p1), .unset, .unset, .unset, .unset, .unset] [(.int (0 : Int32)), (.ref b2), (.ref b2)])) rfl (hb hby at_7)
  -- Sto10: the object may lie in that array: Sto.of Ar.. (an 'Ovr', by the sheet's words) (an 'Ins' of its class), Shelf42/RW6; carried by Sto.ext E.. | Sto.wr W..
  obtain ⟨cl_10, Ar_b2, q_b2, S_b2, N_b2, H_b2, G_b2⟩ := V_b2
  have hin10 := inb_of (j := (0 : Int32)) S_b2 ⟨by decide, by decide⟩
  have Sto10 := Sto.ofV Ar_b2 q_b2 O2 (Ins.self (E_w3.keep K2))
  obtain ⟨T5, h5, X5, e5, W5, st5⟩ := stR X4 hx hZ e4 Ar_b2 (j := (0 : Int32)) hin10 rfl Sto10 (g := (mkF m 10 #[.val (.int p1), .unset, .unset, .unset, .unset, .unset] [(.ref w3), (.int (0 : Int32)), (.ref b2), (.ref b2)])) rfl rfl (hb hby at_10)
  have V_b2_5 : Arv Z h5 b2 _ (.object "com/example/warning_recheck/warningrecheck/engine/LibraryFunction") (8 : Int32) [(.ref w3), .null, .null, .null, .null, .null, .null, .null] .null := Arv.set Ar_b2 q_b2 S_b2 N_b2 H_b2 G_b2 rfl W5 0 rfl (Nat.le_of_ble_eq_true rfl)
  have N5 := Fr.snoc X5 N0 g_b2
  -- Ar_b2.same W5 : the array with (.ref w3) at the place (0 : Int32)
  have K5 : Keep h0 h5 [] := K2.wr W5 (Or.inr sz_b2)
  obtain ⟨T7, X7, e7, st7⟩ := getS2 X5 hx hZ hown (host := "") (Or.inl (hw _ (List.mem_of_getElem? (i := 6) rfl))) Via.refl e5 (own_stak S_CALLOC K5) (g := (mkF m 13 #[.val (.int p1), .unset, .unset, .unset, .unset, .unset] [(.int (1 : Int32)), (.ref b2), (.ref b2)])) rfl (hb hby at_13)
  -- Sto16: the object may lie in that array: Sto.of Ar.. (an 'Ovr', by the sheet's words) (an 'Ins' of its class), Shelf42/RW6; carried by Sto.ext E.. | Sto.wr W..
  obtain ⟨cl_16, Ar_b2, q_b2, S_b2, N_b2, H_b2, G_b2⟩ := V_b2_5
  have hin16 := inb_of (j := (1 : Int32)) S_b2 ⟨by decide, by decide⟩
  have Sto16 := Sto.ofV Ar_b2 q_b2 O2 (Ins.self (E_w6.keep K5))
  obtain ⟨T8, h8, X8, e8, W8, st8⟩ := stR X7 hx hZ e7 Ar_b2 (j := (1 : Int32)) hin16 rfl Sto16 (g := (mkF m 16 #[.val (.int p1), .unset, .unset, .unset, .unset, .unset] [(.ref w6), (.int (1 : Int32)), (.ref b2), (.ref b2)])) rfl rfl (hb hby at_16)
  have V_b2_8 : Arv Z h8 b2 _ (.object "com/example/warning_recheck/warningrecheck/engine/LibraryFunction") (8 : Int32) [(.ref w3), (.ref w6), .null, .null, .null, .null, .null, .null] .null := Arv.set Ar_b2 q_b2 S_b2 N_b2 H_b2 G_b2 rfl W8 1 rfl (Nat.le_of_ble_eq_true rfl)
  have N8 := Fr.snoc X8 N5 g_b2
  -- Ar_b2.same W8 : the array with (.ref w6) at the place (1 : Int32)
  have K8 : Keep h0 h8 [] := K5.wr W8 (Or.inr sz_b2)
  obtain ⟨T10, X10, e10, st10⟩ := getS2 X8 hx hZ hown (host := "") (Or.inl (hw _ (List.mem_of_getElem? (i := 8) rfl))) Via.refl e8 (own_stak S_FREE K8) (g := (mkF m 19 #[.val (.int p1), .unset, .unset, .unset, .unset, .unset] [(.int (2 : Int32)), (.ref b2), (.ref b2)])) rfl (hb hby at_19)
  -- Sto22: the object may lie in that array: Sto.of Ar.. (an 'Ovr', by the sheet's words) (an 'Ins' of its class), Shelf42/RW6; carried by Sto.ext E.. | Sto.wr W..
  obtain ⟨cl_22, Ar_b2, q_b2, S_b2, N_b2, H_b2, G_b2⟩ := V_b2_8
  have hin22 := inb_of (j := (2 : Int32)) S_b2 ⟨by decide, by decide⟩
  have Sto22 := Sto.ofV Ar_b2 q_b2 O2 (Ins.self (E_w9.keep K8))
  obtain ⟨T11, h11, X11, e11, W11, st11⟩ := stR X10 hx hZ e10 Ar_b2 (j := (2 : Int32)) hin22 rfl Sto22 (g := (mkF m 22 #[.val (.int p1), .unset, .unset, .unset, .unset, .unset] [(.ref w9), (.int (2 : Int32)), (.ref b2), (.ref b2)])) rfl rfl (hb hby at_22)
  have V_b2_11 : Arv Z h11 b2 _ (.object "com/example/warning_recheck/warningrecheck/engine/LibraryFunction") (8 : Int32) [(.ref w3), (.ref w6), (.ref w9), .null, .null, .null, .null, .null] .null := Arv.set Ar_b2 q_b2 S_b2 N_b2 H_b2 G_b2 rfl W11 2 rfl (Nat.le_of_ble_eq_true rfl)
  have N11 := Fr.snoc X11 N8 g_b2
  -- Ar_b2.same W11 : the array with (.ref w9) at the place (2 : Int32)
  have K11 : Keep h0 h11 [] := K8.wr W11 (Or.inr sz_b2)
  obtain ⟨T13, X13, e13, st13⟩ := getS2 X11 hx hZ hown (host := "") (Or.inl (hw _ (List.mem_of_getElem? (i := 10) rfl))) Via.refl e11 (own_stak S_REALLOC K11) (g := (mkF m 25 #[.val (.int p1), .unset, .unset, .unset, .unset, .unset] [(.int (3 : Int32)), (.ref b2), (.ref b2)])) rfl (hb hby at_25)
  -- Sto28: the object may lie in that array: Sto.of Ar.. (an 'Ovr', by the sheet's words) (an 'Ins' of its class), Shelf42/RW6; carried by Sto.ext E.. | Sto.wr W..
  obtain ⟨cl_28, Ar_b2, q_b2, S_b2, N_b2, H_b2, G_b2⟩ := V_b2_11
  have hin28 := inb_of (j := (3 : Int32)) S_b2 ⟨by decide, by decide⟩
  have Sto28 := Sto.ofV Ar_b2 q_b2 O2 (Ins.self (E_w12.keep K11))
  obtain ⟨T14, h14, X14, e14, W14, st14⟩ := stR X13 hx hZ e13 Ar_b2 (j := (3 : Int32)) hin28 rfl Sto28 (g := (mkF m 28 #[.val (.int p1), .unset, .unset, .unset, .unset, .unset] [(.ref w12), (.int (3 : Int32)), (.ref b2), (.ref b2)])) rfl rfl (hb hby at_28)
  have V_b2_14 : Arv Z h14 b2 _ (.object "com/example/warning_recheck/warningrecheck/engine/LibraryFunction") (8 : Int32) [(.ref w3), (.ref w6), (.ref w9), (.ref w12), .null, .null, .null, .null] .null := Arv.set Ar_b2 q_b2 S_b2 N_b2 H_b2 G_b2 rfl W14 3 rfl (Nat.le_of_ble_eq_true rfl)
  have N14 := Fr.snoc X14 N11 g_b2
  -- Ar_b2.same W14 : the array with (.ref w12) at the place (3 : Int32)
  have K14 : Keep h0 h14 [] := K11.wr W14 (Or.inr sz_b2)
  obtain ⟨T16, X16, e16, st16⟩ := getS2 X14 hx hZ hown (host := "") (Or.inl (hw _ (List.mem_of_getElem? (i := 12) rfl))) Via.refl e14 (own_stak S_ABORT K14) (g := (mkF m 31 #[.val (.int p1), .unset, .unset, .unset, .unset, .unset] [(.int (4 : Int32)), (.ref b2), (.ref b2)])) rfl (hb hby at_31)
  -- Sto34: the object may lie in that array: Sto.of Ar.. (an 'Ovr', by the sheet's words) (an 'Ins' of its class), Shelf42/RW6; carried by Sto.ext E.. | Sto.wr W..
  obtain ⟨cl_34, Ar_b2, q_b2, S_b2, N_b2, H_b2, G_b2⟩ := V_b2_14
  have hin34 := inb_of (j := (4 : Int32)) S_b2 ⟨by decide, by decide⟩
  have Sto34 := Sto.ofV Ar_b2 q_b2 O2 (Ins.self (E_w15.keep K14))
  obtain ⟨T17, h17, X17, e17, W17, st17⟩ := stR X16 hx hZ e16 Ar_b2 (j := (4 : Int32)) hin34 rfl Sto34 (g := (mkF m 34 #[.val (.int p1), .unset, .unset, .unset, .unset, .unset] [(.ref w15), (.int (4 : Int32)), (.ref b2), (.ref b2)])) rfl rfl (hb hby at_34)
  have V_b2_17 : Arv Z h17 b2 _ (.object "com/example/warning_recheck/warningrecheck/engine/LibraryFunction") (8 : Int32) [(.ref w3), (.ref w6), (.ref w9), (.ref w12), (.ref w15), .null, .null, .null] .null := Arv.set Ar_b2 q_b2 S_b2 N_b2 H_b2 G_b2 rfl W17 4 rfl (Nat.le_of_ble_eq_true rfl)
  have N17 := Fr.snoc X17 N14 g_b2
  -- Ar_b2.same W17 : the array with (.ref w15) at the place (4 : Int32)
  have K17 : Keep h0 h17 [] := K14.wr W17 (Or.inr sz_b2)
  obtain ⟨T19, X19, e19, st19⟩ := getS2 X17 hx hZ hown (host := "") (Or.inl (hw _ (List.mem_of_getElem? (i := 14) rfl))) Via.refl e17 (own_stak S_EXIT K17) (g := (mkF m 37 #[.val (.int p1), .unset, .unset, .unset, .unset, .unset] [(.int (5 : Int32)), (.ref b2), (.ref b2)])) rfl (hb hby at_37)
  -- Sto40: the object may lie in that array: Sto.of Ar.. (an 'Ovr', by the sheet's words) (an 'Ins' of its class), Shelf42/RW6; carried by Sto.ext E.. | Sto.wr W..
  obtain ⟨cl_40, Ar_b2, q_b2, S_b2, N_b2, H_b2, G_b2⟩ := V_b2_17
  have hin40 := inb_of (j := (5 : Int32)) S_b2 ⟨by decide, by decide⟩
  have Sto40 := Sto.ofV Ar_b2 q_b2 O2 (Ins.self (E_w18.keep K17))
  obtain ⟨T20, h20, X20, e20, W20, st20⟩ := stR X19 hx hZ e19 Ar_b2 (j := (5 : Int32)) hin40 rfl Sto40 (g := (mkF m 40 #[.val (.int p1), .unset, .unset, .unset, .unset, .unset] [(.ref w18), (.int (5 : Int32)), (.ref b2), (.ref b2)])) rfl rfl (hb hby at_40)
  have V_b2_20 : Arv Z h20 b2 _ (.object "com/example/warning_recheck/warningrecheck/engine/LibraryFunction") (8 : Int32) [(.ref w3), (.ref w6), (.ref w9), (.ref w12), (.ref w15), (.ref w18), .null, .null] .null := Arv.set Ar_b2 q_b2 S_b2 N_b2 H_b2 G_b2 rfl W20 5 rfl (Nat.le_of_ble_eq_true rfl)
  have N20 := Fr.snoc X20 N17 g_b2
  -- Ar_b2.same W20 : the array with (.ref w18) at the place (5 : Int32)
  have K20 : Keep h0 h20 [] := K17.wr W20 (Or.inr sz_b2)
  obtain ⟨T22, X22, e22, st22⟩ := getS2 X20 hx hZ hown (host := "") (Or.inl (hw _ (List.mem_of_getElem? (i := 16) rfl))) Via.refl e20 (own_stak S_IMMEDIATE_EXIT K20) (g := (mkF m 44 #[.val (.int p1), .unset, .unset, .unset, .unset, .unset] [(.int (6 : Int32)), (.ref b2), (.ref b2)])) rfl (hb hby at_44)
  -- Sto47: the object may lie in that array: Sto.of Ar.. (an 'Ovr', by the sheet's words) (an 'Ins' of its class), Shelf42/RW6; carried by Sto.ext E.. | Sto.wr W..
  obtain ⟨cl_47, Ar_b2, q_b2, S_b2, N_b2, H_b2, G_b2⟩ := V_b2_20
  have hin47 := inb_of (j := (6 : Int32)) S_b2 ⟨by decide, by decide⟩
  have Sto47 := Sto.ofV Ar_b2 q_b2 O2 (Ins.self (E_w21.keep K20))
  obtain ⟨T23, h23, X23, e23, W23, st23⟩ := stR X22 hx hZ e22 Ar_b2 (j := (6 : Int32)) hin47 rfl Sto47 (g := (mkF m 47 #[.val (.int p1), .unset, .unset, .unset, .unset, .unset] [(.ref w21), (.int (6 : Int32)), (.ref b2), (.ref b2)])) rfl rfl (hb hby at_47)
  have V_b2_23 : Arv Z h23 b2 _ (.object "com/example/warning_recheck/warningrecheck/engine/LibraryFunction") (8 : Int32) [(.ref w3), (.ref w6), (.ref w9), (.ref w12), (.ref w15), (.ref w18), (.ref w21), .null] .null := Arv.set Ar_b2 q_b2 S_b2 N_b2 H_b2 G_b2 rfl W23 6 rfl (Nat.le_of_ble_eq_true rfl)
  have N23 := Fr.snoc X23 N20 g_b2
  -- Ar_b2.same W23 : the array with (.ref w21) at the place (6 : Int32)
  have K23 : Keep h0 h23 [] := K20.wr W23 (Or.inr sz_b2)
  obtain ⟨T25, X25, e25, st25⟩ := getS2 X23 hx hZ hown (host := "") (Or.inl (hw _ (List.mem_of_getElem? (i := 18) rfl))) Via.refl e23 (own_stak S_QUICK_EXIT K23) (g := (mkF m 51 #[.val (.int p1), .unset, .unset, .unset, .unset, .unset] [(.int (7 : Int32)), (.ref b2), (.ref b2)])) rfl (hb hby at_51)
  -- Sto54: the object may lie in that array: Sto.of Ar.. (an 'Ovr', by the sheet's words) (an 'Ins' of its class), Shelf42/RW6; carried by Sto.ext E.. | Sto.wr W..
  obtain ⟨cl_54, Ar_b2, q_b2, S_b2, N_b2, H_b2, G_b2⟩ := V_b2_23
  have hin54 := inb_of (j := (7 : Int32)) S_b2 ⟨by decide, by decide⟩
  have Sto54 := Sto.ofV Ar_b2 q_b2 O2 (Ins.self (E_w24.keep K23))
  obtain ⟨T26, h26, X26, e26, W26, st26⟩ := stR X25 hx hZ e25 Ar_b2 (j := (7 : Int32)) hin54 rfl Sto54 (g := (mkF m 54 #[.val (.int p1), .unset, .unset, .unset, .unset, .unset] [(.ref w24), (.int (7 : Int32)), (.ref b2), (.ref b2)])) rfl rfl (hb hby at_54)
  have V_b2_26 : Arv Z h26 b2 _ (.object "com/example/warning_recheck/warningrecheck/engine/LibraryFunction") (8 : Int32) [(.ref w3), (.ref w6), (.ref w9), (.ref w12), (.ref w15), (.ref w18), (.ref w21), (.ref w24)] .null := Arv.set Ar_b2 q_b2 S_b2 N_b2 H_b2 G_b2 rfl W26 7 rfl (Nat.le_of_ble_eq_true rfl)
  have N26 := Fr.snoc X26 N23 g_b2
  -- Ar_b2.same W26 : the array with (.ref w24) at the place (7 : Int32)
  have K26 : Keep h0 h26 [] := K23.wr W26 (Or.inr sz_b2)
  obtain ⟨cl_63, Ar_b2_63, q_b2, S_b2, N_b2, H_b2, G_b2⟩ := V_b2_26
  have hin63 := inb_of S_b2 hj63
  have hat63 := H_b2.at hin63 hu63
  have V_b2_p63 : Arv Z h26 b2 _ (.object "com/example/warning_recheck/warningrecheck/engine/LibraryFunction") (8 : Int32) [(.ref w3), (.ref w6), (.ref w9), (.ref w12), (.ref w15), (.ref w18), (.ref w21), (.ref w24)] .null := ⟨cl_63, Ar_b2_63, q_b2, S_b2, N_b2, H_b2, G_b2⟩
  obtain ⟨T28, X28, e28, st28⟩ := getS2 X26 hx hZ hown (host := "") (Or.inl (hw _ (List.mem_of_getElem? (i := 8) rfl))) Via.refl e26 (own_stak S_FREE K26) (g := (mkF m 69 #[.val (.int p1), .val (.ref b2), .val (.int (p1 &&& (7 : Int32))), .val (.ref w27), .val (.int (0 : Int32)), .unset] [(.ref w27)])) rfl (hb hby at_69)
  obtain ⟨T29, X29, e29, st29⟩ := getS2 X28 hx hZ hown (host := "") (Or.inl (hw _ (List.mem_of_getElem? (i := 10) rfl))) Via.refl e28 (own_stak S_REALLOC K26) (g := (mkF m 79 #[.val (.int p1), .val (.ref b2), .val (.int (p1 &&& (7 : Int32))), .val (.ref w27), .val (.int (0 : Int32)), .unset] [(.ref w27)])) rfl (hb hby at_79)
  -- pc 89: com/example/warning_recheck/warningrecheck/engine/LibraryFunction.frees by the contract of the body that the receiver's class selects, rm1
  obtain ⟨cq30, kq30, q30a, q30b, q30c⟩ := isOf hZ e29 (E_w27.keep K26)
  obtain ⟨_, _, ⟨T30, L30, k30, n30⟩, -, X30, ⟨Lc30, hQ30, l30, y30, z30⟩, st30⟩ := X29.virtualBack hx (y := (⟨"com/example/warning_recheck/warningrecheck/engine/LibraryFunction", "frees", "()Z"⟩ : MethodName)) (z := (⟨"com/example/warning_recheck/warningrecheck/engine/LibraryFunction", "frees", "()Z"⟩ : MethodName)) hown (mvT hZ (hw _ (List.mem_of_getElem? (i := 20) rfl))) (mvT hZ (hw _ (List.mem_of_getElem? (i := 21) rfl))) (notFace_of_selects (args := #[]) (mvT hZ (hw _ (List.mem_of_getElem? (i := 23) rfl)))) (mvT hZ (hw _ (List.mem_of_getElem? (i := 23) rfl))) (mvT hZ (hw _ (List.mem_of_getElem? (i := 22) rfl))) (by decide) (backOf (W := 0) (own_1 l Z a0 hw [] w27 (some (.int r30)) h26 n0 (Nat.le_trans Z0 K26.1) (P1_keep K26 hP30)) hZ (hw _ (List.mem_of_getElem? (i := 24) rfl)) (hw _ (List.mem_of_getElem? (i := 3) rfl)) (by decide) (by decide)) q30a q30c (g := (mkF m 89 #[.val (.int p1), .val (.ref b2), .val (.int (p1 &&& (7 : Int32))), .val (.ref w27), .val (.int (0 : Int32)), .unset] [(.ref w27)])) rfl (by rw [hml]; rfl) (Steps.refl _) (argsL := []) (rest := []) (lenOf pd_0_0 rfl) rfl (by show 2 * 0 + _ ≤ _; exact Nat.le_of_eq rfl) (hb hby at_89) (fun _ _ => ⟨rfl, e29, (by decide : 1 + 0 ≤ _), (by decide : 8 + 0 ≤ _)⟩)
  dsimp only [Pt.U, Pt.locs, Pt.cells, Pt.slots] at X30 l30 y30 z30 st30 hQ30
  subst l30 y30 z30
  obtain ⟨rfl, N30q, e30⟩ := hQ30      -- what it returned, that it wrote nothing old, and the rest of your Q1
  have N30 := Fr.app N26 N30q
  obtain ⟨fs, hr, hrun, hended, hW, hsame⟩ := X30.leave (v := some (.int (1 : Int32))) (fun h => by rw [Bd.returns] at h; cases h)
  refine ⟨_, _, pre0 _ ?_, hrun, hended, _, _, rfl, ?_, ⟨_, rfl⟩, hW, hsame.mono (by decide) (by decide)⟩
  -- 4. STEPS
  · show Steps p.tables e below (s₁.setTop (mkF m 0 #[.val (.int p1), .unset, .unset, .unset, .unset, .unset] [])) _
    refine XS.bipush X0.here hx rfl (hb hby at_0) ?_
    show Steps p.tables e below (s₁.setTop (mkF m 2 #[.val (.int p1), .unset, .unset, .unset, .unset, .unset] [(.int (8 : Int32))])) _
    refine st2 _ ?_
    show Steps p.tables e below (T2.setTop (mkF m 5 #[.val (.int p1), .unset, .unset, .unset, .unset, .unset] [(.ref b2)])) _
    refine XS.dup X2.here hx rfl (hb hby at_5) rfl rfl ?_
    show Steps p.tables e below (T2.setTop (mkF m 6 #[.val (.int p1), .unset, .unset, .unset, .unset, .unset] [(.ref b2), (.ref b2)])) _
    refine XS.iconst X2.here hx rfl (hb hby at_6) ?_
    show Steps p.tables e below (T2.setTop (mkF m 7 #[.val (.int p1), .unset, .unset, .unset, .unset, .unset] [(.int (0 : Int32)), (.ref b2), (.ref b2)])) _
    refine st4 _ ?_
    show Steps p.tables e below (T4.setTop (mkF m 10 #[.val (.int p1), .unset, .unset, .unset, .unset, .unset] [(.ref w3), (.int (0 : Int32)), (.ref b2), (.ref b2)])) _
    refine st5 _ ?_
    show Steps p.tables e below (T5.setTop (mkF m 11 #[.val (.int p1), .unset, .unset, .unset, .unset, .unset] [(.ref b2)])) _
    refine XS.dup X5.here hx rfl (hb hby at_11) rfl rfl ?_
    show Steps p.tables e below (T5.setTop (mkF m 12 #[.val (.int p1), .unset, .unset, .unset, .unset, .unset] [(.ref b2), (.ref b2)])) _
    refine XS.iconst X5.here hx rfl (hb hby at_12) ?_
    show Steps p.tables e below (T5.setTop (mkF m 13 #[.val (.int p1), .unset, .unset, .unset, .unset, .unset] [(.int (1 : Int32)), (.ref b2), (.ref b2)])) _
    refine st7 _ ?_
    show Steps p.tables e below (T7.setTop (mkF m 16 #[.val (.int p1), .unset, .unset, .unset, .unset, .unset] [(.ref w6), (.int (1 : Int32)), (.ref b2), (.ref b2)])) _
    refine st8 _ ?_
    show Steps p.tables e below (T8.setTop (mkF m 17 #[.val (.int p1), .unset, .unset, .unset, .unset, .unset] [(.ref b2)])) _
    refine XS.dup X8.here hx rfl (hb hby at_17) rfl rfl ?_
    show Steps p.tables e below (T8.setTop (mkF m 18 #[.val (.int p1), .unset, .unset, .unset, .unset, .unset] [(.ref b2), (.ref b2)])) _
    refine XS.iconst X8.here hx rfl (hb hby at_18) ?_
    show Steps p.tables e below (T8.setTop (mkF m 19 #[.val (.int p1), .unset, .unset, .unset, .unset, .unset] [(.int (2 : Int32)), (.ref b2), (.ref b2)])) _
    refine st10 _ ?_
    show Steps p.tables e below (T10.setTop (mkF m 22 #[.val (.int p1), .unset, .unset, .unset, .unset, .unset] [(.ref w9), (.int (2 : Int32)), (.ref b2), (.ref b2)])) _
    refine st11 _ ?_
    show Steps p.tables e below (T11.setTop (mkF m 23 #[.val (.int p1), .unset, .unset, .unset, .unset, .unset] [(.ref b2)])) _
    refine XS.dup X11.here hx rfl (hb hby at_23) rfl rfl ?_
    show Steps p.tables e below (T11.setTop (mkF m 24 #[.val (.int p1), .unset, .unset, .unset, .unset, .unset] [(.ref b2), (.ref b2)])) _
    refine XS.iconst X11.here hx rfl (hb hby at_24) ?_
    show Steps p.tables e below (T11.setTop (mkF m 25 #[.val (.int p1), .unset, .unset, .unset, .unset, .unset] [(.int (3 : Int32)), (.ref b2), (.ref b2)])) _
    refine st13 _ ?_
    show Steps p.tables e below (T13.setTop (mkF m 28 #[.val (.int p1), .unset, .unset, .unset, .unset, .unset] [(.ref w12), (.int (3 : Int32)), (.ref b2), (.ref b2)])) _
    refine st14 _ ?_
    show Steps p.tables e below (T14.setTop (mkF m 29 #[.val (.int p1), .unset, .unset, .unset, .unset, .unset] [(.ref b2)])) _
    refine XS.dup X14.here hx rfl (hb hby at_29) rfl rfl ?_
    show Steps p.tables e below (T14.setTop (mkF m 30 #[.val (.int p1), .unset, .unset, .unset, .unset, .unset] [(.ref b2), (.ref b2)])) _
    refine XS.iconst X14.here hx rfl (hb hby at_30) ?_
    show Steps p.tables e below (T14.setTop (mkF m 31 #[.val (.int p1), .unset, .unset, .unset, .unset, .unset] [(.int (4 : Int32)), (.ref b2), (.ref b2)])) _
    refine st16 _ ?_
    show Steps p.tables e below (T16.setTop (mkF m 34 #[.val (.int p1), .unset, .unset, .unset, .unset, .unset] [(.ref w15), (.int (4 : Int32)), (.ref b2), (.ref b2)])) _
    refine st17 _ ?_
    show Steps p.tables e below (T17.setTop (mkF m 35 #[.val (.int p1), .unset, .unset, .unset, .unset, .unset] [(.ref b2)])) _
    refine XS.dup X17.here hx rfl (hb hby at_35) rfl rfl ?_
    show Steps p.tables e below (T17.setTop (mkF m 36 #[.val (.int p1), .unset, .unset, .unset, .unset, .unset] [(.ref b2), (.ref b2)])) _
    refine XS.iconst X17.here hx rfl (hb hby at_36) ?_
    show Steps p.tables e below (T17.setTop (mkF m 37 #[.val (.int p1), .unset, .unset, .unset, .unset, .unset] [(.int (5 : Int32)), (.ref b2), (.ref b2)])) _
    refine st19 _ ?_
    show Steps p.tables e below (T19.setTop (mkF m 40 #[.val (.int p1), .unset, .unset, .unset, .unset, .unset] [(.ref w18), (.int (5 : Int32)), (.ref b2), (.ref b2)])) _
    refine st20 _ ?_
    show Steps p.tables e below (T20.setTop (mkF m 41 #[.val (.int p1), .unset, .unset, .unset, .unset, .unset] [(.ref b2)])) _
    refine XS.dup X20.here hx rfl (hb hby at_41) rfl rfl ?_
    show Steps p.tables e below (T20.setTop (mkF m 42 #[.val (.int p1), .unset, .unset, .unset, .unset, .unset] [(.ref b2), (.ref b2)])) _
    refine XS.bipush X20.here hx rfl (hb hby at_42) ?_
    show Steps p.tables e below (T20.setTop (mkF m 44 #[.val (.int p1), .unset, .unset, .unset, .unset, .unset] [(.int (6 : Int32)), (.ref b2), (.ref b2)])) _
    refine st22 _ ?_
    show Steps p.tables e below (T22.setTop (mkF m 47 #[.val (.int p1), .unset, .unset, .unset, .unset, .unset] [(.ref w21), (.int (6 : Int32)), (.ref b2), (.ref b2)])) _
    refine st23 _ ?_
    show Steps p.tables e below (T23.setTop (mkF m 48 #[.val (.int p1), .unset, .unset, .unset, .unset, .unset] [(.ref b2)])) _
    refine XS.dup X23.here hx rfl (hb hby at_48) rfl rfl ?_
    show Steps p.tables e below (T23.setTop (mkF m 49 #[.val (.int p1), .unset, .unset, .unset, .unset, .unset] [(.ref b2), (.ref b2)])) _
    refine XS.bipush X23.here hx rfl (hb hby at_49) ?_
    show Steps p.tables e below (T23.setTop (mkF m 51 #[.val (.int p1), .unset, .unset, .unset, .unset, .unset] [(.int (7 : Int32)), (.ref b2), (.ref b2)])) _
    refine st25 _ ?_
    show Steps p.tables e below (T25.setTop (mkF m 54 #[.val (.int p1), .unset, .unset, .unset, .unset, .unset] [(.ref w24), (.int (7 : Int32)), (.ref b2), (.ref b2)])) _
    refine st26 _ ?_
    show Steps p.tables e below (T26.setTop (mkF m 55 #[.val (.int p1), .unset, .unset, .unset, .unset, .unset] [(.ref b2)])) _
    refine XS.astoreN X26.here hx rfl (hb hby at_55) rfl rfl (l' := #[.val (.int p1), .val (.ref b2), .unset, .unset, .unset, .unset]) rfl ?_
    show Steps p.tables e below (T26.setTop (mkF m 56 #[.val (.int p1), .val (.ref b2), .unset, .unset, .unset, .unset] [])) _
    refine XS.iloadN X26.here hx rfl (hb hby at_56) rfl ?_
    show Steps p.tables e below (T26.setTop (mkF m 57 #[.val (.int p1), .val (.ref b2), .unset, .unset, .unset, .unset] [(.int p1)])) _
    refine XS.bipush X26.here hx rfl (hb hby at_57) ?_
    show Steps p.tables e below (T26.setTop (mkF m 59 #[.val (.int p1), .val (.ref b2), .unset, .unset, .unset, .unset] [(.int (7 : Int32)), (.int p1)])) _
    refine XS.iand X26.here hx rfl (hb hby at_59) rfl ?_
    show Steps p.tables e below (T26.setTop (mkF m 60 #[.val (.int p1), .val (.ref b2), .unset, .unset, .unset, .unset] [(.int (p1 &&& (7 : Int32)))])) _
    refine XS.istoreN X26.here hx rfl (hb hby at_60) rfl (l' := #[.val (.int p1), .val (.ref b2), .val (.int (p1 &&& (7 : Int32))), .unset, .unset, .unset]) rfl ?_
    show Steps p.tables e below (T26.setTop (mkF m 61 #[.val (.int p1), .val (.ref b2), .val (.int (p1 &&& (7 : Int32))), .unset, .unset, .unset] [])) _
    refine XS.aloadN X26.here hx rfl (hb hby at_61) rfl rfl ?_
    show Steps p.tables e below (T26.setTop (mkF m 62 #[.val (.int p1), .val (.ref b2), .val (.int (p1 &&& (7 : Int32))), .unset, .unset, .unset] [(.ref b2)])) _
    refine XS.iloadN X26.here hx rfl (hb hby at_62) rfl ?_
    show Steps p.tables e below (T26.setTop (mkF m 63 #[.val (.int p1), .val (.ref b2), .val (.int (p1 &&& (7 : Int32))), .unset, .unset, .unset] [(.int (p1 &&& (7 : Int32))), (.ref b2)])) _
    refine X26.aaload hx (j := (p1 &&& (7 : Int32))) (v := (.ref w27)) (by rw [e26]; exact Ar_b2_63.1) (State.isArrayOf_alike hZ.alike Ar_b2_63.2.1) rfl Ar_b2_63.2.2 hin63 hat63 (g := (mkF m 63 #[.val (.int p1), .val (.ref b2), .val (.int (p1 &&& (7 : Int32))), .unset, .unset, .unset] [(.int (p1 &&& (7 : Int32))), (.ref b2)])) rfl rfl (hb hby at_63) _ ?_
    show Steps p.tables e below (T26.setTop (mkF m 64 #[.val (.int p1), .val (.ref b2), .val (.int (p1 &&& (7 : Int32))), .unset, .unset, .unset] [(.ref w27)])) _
    refine XS.astoreN X26.here hx rfl (hb hby at_64) rfl rfl (l' := #[.val (.int p1), .val (.ref b2), .val (.int (p1 &&& (7 : Int32))), .val (.ref w27), .unset, .unset]) rfl ?_
    show Steps p.tables e below (T26.setTop (mkF m 65 #[.val (.int p1), .val (.ref b2), .val (.int (p1 &&& (7 : Int32))), .val (.ref w27), .unset, .unset] [])) _
    refine XS.iconst X26.here hx rfl (hb hby at_65) ?_
    show Steps p.tables e below (T26.setTop (mkF m 66 #[.val (.int p1), .val (.ref b2), .val (.int (p1 &&& (7 : Int32))), .val (.ref w27), .unset, .unset] [(.int (0 : Int32))])) _
    refine XS.istore X26.here hx rfl (hb hby at_66) rfl (l' := #[.val (.int p1), .val (.ref b2), .val (.int (p1 &&& (7 : Int32))), .val (.ref w27), .val (.int (0 : Int32)), .unset]) rfl ?_
    show Steps p.tables e below (T26.setTop (mkF m 68 #[.val (.int p1), .val (.ref b2), .val (.int (p1 &&& (7 : Int32))), .val (.ref w27), .val (.int (0 : Int32)), .unset] [])) _
    refine XS.aloadN X26.here hx rfl (hb hby at_68) rfl rfl ?_
    show Steps p.tables e below (T26.setTop (mkF m 69 #[.val (.int p1), .val (.ref b2), .val (.int (p1 &&& (7 : Int32))), .val (.ref w27), .val (.int (0 : Int32)), .unset] [(.ref w27)])) _
    refine st28 _ ?_
    show Steps p.tables e below (T28.setTop (mkF m 72 #[.val (.int p1), .val (.ref b2), .val (.int (p1 &&& (7 : Int32))), .val (.ref w27), .val (.int (0 : Int32)), .unset] [(.ref w9), (.ref w27)])) _
    refine Jvm.RoadKit.acmp (g := (mkF m 72 #[.val (.int p1), .val (.ref b2), .val (.int (p1 &&& (7 : Int32))), .val (.ref w27), .val (.int (0 : Int32)), .unset] [(.ref w9), (.ref w27)])) X28 hx rfl rfl rfl (pc0 := 72) (pc' := 78) (same := false) rfl (hb hby at_72) rfl (decide_eq_false fun q => ha72 (Value.ref.inj q)) (by decide) (by decide) ?_
    show Steps p.tables e below (T28.setTop (mkF m 78 #[.val (.int p1), .val (.ref b2), .val (.int (p1 &&& (7 : Int32))), .val (.ref w27), .val (.int (0 : Int32)), .unset] [])) _
    refine XS.aloadN X28.here hx rfl (hb hby at_78) rfl rfl ?_
    show Steps p.tables e below (T28.setTop (mkF m 79 #[.val (.int p1), .val (.ref b2), .val (.int (p1 &&& (7 : Int32))), .val (.ref w27), .val (.int (0 : Int32)), .unset] [(.ref w27)])) _
    refine st29 _ ?_
    show Steps p.tables e below (T29.setTop (mkF m 82 #[.val (.int p1), .val (.ref b2), .val (.int (p1 &&& (7 : Int32))), .val (.ref w27), .val (.int (0 : Int32)), .unset] [(.ref w12), (.ref w27)])) _
    refine Jvm.RoadKit.acmp (g := (mkF m 82 #[.val (.int p1), .val (.ref b2), .val (.int (p1 &&& (7 : Int32))), .val (.ref w27), .val (.int (0 : Int32)), .unset] [(.ref w12), (.ref w27)])) X29 hx rfl rfl rfl (pc0 := 82) (pc' := 88) (same := false) rfl (hb hby at_82) rfl (decide_eq_false fun q => ha82 (Value.ref.inj q)) (by decide) (by decide) ?_
    show Steps p.tables e below (T29.setTop (mkF m 88 #[.val (.int p1), .val (.ref b2), .val (.int (p1 &&& (7 : Int32))), .val (.ref w27), .val (.int (0 : Int32)), .unset] [])) _
    refine XS.aloadN X29.here hx rfl (hb hby at_88) rfl rfl ?_
    show Steps p.tables e below (T29.setTop (mkF m 89 #[.val (.int p1), .val (.ref b2), .val (.int (p1 &&& (7 : Int32))), .val (.ref w27), .val (.int (0 : Int32)), .unset] [(.ref w27)])) _
    refine st30.trans ?_
    show Steps p.tables e below (T30.setTop (mkF m 92 #[.val (.int p1), .val (.ref b2), .val (.int (p1 &&& (7 : Int32))), .val (.ref w27), .val (.int (0 : Int32)), .unset] [(.int r30)])) _
    refine XS.istore X30.here hx rfl (hb hby at_92) rfl (l' := #[.val (.int p1), .val (.ref b2), .val (.int (p1 &&& (7 : Int32))), .val (.ref w27), .val (.int (0 : Int32)), .val (.int r30)]) rfl ?_
    show Steps p.tables e below (T30.setTop (mkF m 94 #[.val (.int p1), .val (.ref b2), .val (.int (p1 &&& (7 : Int32))), .val (.ref w27), .val (.int (0 : Int32)), .val (.int r30)] [])) _
    refine XS.iload X30.here hx rfl (hb hby at_94) rfl ?_
    show Steps p.tables e below (T30.setTop (mkF m 96 #[.val (.int p1), .val (.ref b2), .val (.int (p1 &&& (7 : Int32))), .val (.ref w27), .val (.int (0 : Int32)), .val (.int r30)] [(.int r30)])) _
    refine XS.iload X30.here hx rfl (hb hby at_96) rfl ?_
    show Steps p.tables e below (T30.setTop (mkF m 98 #[.val (.int p1), .val (.ref b2), .val (.int (p1 &&& (7 : Int32))), .val (.ref w27), .val (.int (0 : Int32)), .val (.int r30)] [(.int (0 : Int32)), (.int r30)])) _
    refine XS.icmpYes X30.here hx rfl (pc0 := 98) (pc' := 103) rfl (hb hby at_98) rfl (teq hx1).1 (by decide) (by decide) ?_
    show Steps p.tables e below (T30.setTop (mkF m 103 #[.val (.int p1), .val (.ref b2), .val (.int (p1 &&& (7 : Int32))), .val (.ref w27), .val (.int (0 : Int32)), .val (.int r30)] [])) _
    refine XS.iload X30.here hx rfl (hb hby at_103) rfl ?_
    show Steps p.tables e below (T30.setTop (mkF m 105 #[.val (.int p1), .val (.ref b2), .val (.int (p1 &&& (7 : Int32))), .val (.ref w27), .val (.int (0 : Int32)), .val (.int r30)] [(.int r30)])) _
    refine XS.ifYes X30.here hx rfl (pc0 := 105) (pc' := 117) rfl (hb hby at_105) rfl ((if0 _ _).trans (teq hx2).1) (by decide) (by decide) ?_
    show Steps p.tables e below (T30.setTop (mkF m 117 #[.val (.int p1), .val (.ref b2), .val (.int (p1 &&& (7 : Int32))), .val (.ref w27), .val (.int (0 : Int32)), .val (.int r30)] [])) _
    refine XS.iconst X30.here hx rfl (hb hby at_117) ?_
    show Steps p.tables e below (T30.setTop (mkF m 118 #[.val (.int p1), .val (.ref b2), .val (.int (p1 &&& (7 : Int32))), .val (.ref w27), .val (.int (0 : Int32)), .val (.int r30)] [(.int (1 : Int32))])) _
    exact retN X30 hx (t := .boolean) Bd.returns (by simp) (hb hby at_118) hr
  · show Q0_tttt Z p1 w3 w6 w9 w12 w15 w18 w21 w24 w27 h0 n0 _ T30.heap _
    exact ⟨rfl, N30⟩
def Q0_fttft (Z : State) (p1 : Int32) (w3 : Addr) (w6 : Addr) (w9 : Addr) (w12 : Addr) (w15 : Addr) (w18 : Addr) (w21 : Addr) (w24 : Addr) (w27 : Addr) (h0 : Heap) (n0 : Nat) (v : Option Value) (h : Heap) (L : List Loc) : Prop := v = some (.int (1 : Int32)) ∧ Fr n0 L
set_option maxRecDepth 65536 in
set_option maxHeartbeats 40000000 in
theorem rm0_fttft (l : Launch) (Z : State) (a0 : Array Value) (hw : ∀ d ∈ tables_1, d.before a0 Z = true) (ws : List Jvm.Cond) (p1 : Int32) (w3 : Addr) (w6 : Addr) (w9 : Addr) (w12 : Addr) (w15 : Addr) (w18 : Addr) (w21 : Addr) (w24 : Addr) (w27 : Addr) (r30 : Int32) (r31 : Int32) (h0 : Heap) (n0 : Nat) (Z0 : n0 ≤ h0.size) (S_MALLOC : Sta Z h0 "com/example/warning_recheck/warningrecheck/engine/LibraryFunction" "MALLOC" "Lcom/example/warning_recheck/warningrecheck/engine/LibraryFunction;" (.ref w3)) (S_CALLOC : Sta Z h0 "com/example/warning_recheck/warningrecheck/engine/LibraryFunction" "CALLOC" "Lcom/example/warning_recheck/warningrecheck/engine/LibraryFunction;" (.ref w6)) (S_FREE : Sta Z h0 "com/example/warning_recheck/warningrecheck/engine/LibraryFunction" "FREE" "Lcom/example/warning_recheck/warningrecheck/engine/LibraryFunction;" (.ref w9)) (S_REALLOC : Sta Z h0 "com/example/warning_recheck/warningrecheck/engine/LibraryFunction" "REALLOC" "Lcom/example/warning_recheck/warningrecheck/engine/LibraryFunction;" (.ref w12)) (S_ABORT : Sta Z h0 "com/example/warning_recheck/warningrecheck/engine/LibraryFunction" "ABORT" "Lcom/example/warning_recheck/warningrecheck/engine/LibraryFunction;" (.ref w15)) (S_EXIT : Sta Z h0 "com/example/warning_recheck/warningrecheck/engine/LibraryFunction" "EXIT" "Lcom/example/warning_recheck/warningrecheck/engine/LibraryFunction;" (.ref w18)) (S_IMMEDIATE_EXIT : Sta Z h0 "com/example/warning_recheck/warningrecheck/engine/LibraryFunction" "IMMEDIATE_EXIT" "Lcom/example/warning_recheck/warningrecheck/engine/LibraryFunction;" (.ref w21)) (S_QUICK_EXIT : Sta Z h0 "com/example/warning_recheck/warningrecheck/engine/LibraryFunction" "QUICK_EXIT" "Lcom/example/warning_recheck/warningrecheck/engine/LibraryFunction;" (.ref w24)) (E_w27 : Exa Z h0 w27 "com/example/warning_recheck/warningrecheck/engine/LibraryFunction") (ha72 : w27 = w9) (ha82 : ¬ (w27 = w12)) (E_w3 : Exa Z h0 w3 "com/example/warning_recheck/warningrecheck/engine/LibraryFunction") (E_w6 : Exa Z h0 w6 "com/example/warning_recheck/warningrecheck/engine/LibraryFunction") (E_w9 : Exa Z h0 w9 "com/example/warning_recheck/warningrecheck/engine/LibraryFunction") (E_w12 : Exa Z h0 w12 "com/example/warning_recheck/warningrecheck/engine/LibraryFunction") (E_w15 : Exa Z h0 w15 "com/example/warning_recheck/warningrecheck/engine/LibraryFunction") (E_w18 : Exa Z h0 w18 "com/example/warning_recheck/warningrecheck/engine/LibraryFunction") (E_w21 : Exa Z h0 w21 "com/example/warning_recheck/warningrecheck/engine/LibraryFunction") (E_w24 : Exa Z h0 w24 "com/example/warning_recheck/warningrecheck/engine/LibraryFunction") (hj63 : ¬ (p1 &&& (7 : Int32)) < 0 ∧ (p1 &&& (7 : Int32)) < (8 : Int32)) (hu63 : ([(.ref w3), (.ref w6), (.ref w9), (.ref w12), (.ref w15), (.ref w18), (.ref w21), (.ref w24)] : List Value).getD ((p1 &&& (7 : Int32))).toNatClampNeg .null = (.ref w27)) (hP30 : P1 Z h0 w27 (some (.int r30))) (hP31 : P2 Z h0 w27 (some (.int r31))) (hx1 : r30 = (1 : Int32)) (hx2 : ¬ (r30 = (0 : Int32))) (hx3 : ¬ (r31 = (0 : Int32))) :
    MetFree l x (head1 (Jvm.Cond.code x code maxLocals ret :: ws) room_1) (fun a U => a = #[(.int p1)] ∧ Z.Warmed39 U.vm ∧ U.heap = h0) (fun _ _ _ _ _ => True) (fun _ U o U' => ∃ v L, o = .returned v ∧ Q0_fttft Z p1 w3 w6 w9 w12 w15 w18 w21 w24 w27 h0 n0 v U'.heap L ∧ FrameEnd U o U' L room_1.cells room_1.slots) := by
  refine MetFree.of_bodySF (plainFor_of_name pn_0) hisR ?_
  intro p e s m args below meth c s₁ Bd hml0 hP hK
  obtain ⟨rfl, hZ, hh⟩ := hP
  have hx := Bd.exec
  have hby := Bd.bytes
  have hml : c.maxLocals = 6 := hml0
  have hown : s.vm.findClass "com/example/warning_recheck/warningrecheck/engine/LibraryFunctionFreesPinLaw" = some m.cls := findClass_of_methodNamed Bd.named
  have hnm := (name_of_methodNamed Bd.named Bd.method).1
  have X0 : Stand p l e room_1 s m #[(.int p1)] below meth c s₁ [] 0 0 := Stand.of_body Bd
  have e0 : s₁.heap = h0 := by rw [← hh, Bd.state]; rfl
  have N0 := Fr.nil n0
  have pre0 : ∀ t, Steps p.tables e below (s₁.setTop (mkF m 0 #[.val (.int p1), .unset, .unset, .unset, .unset, .unset] [])) t → Steps p.tables e below (s₁.setTop (entryFrame m #[(.int p1)] maxLocals)) t := fun t k => castTop (ef_0 m p1) k
  -- 3. LAWS
  obtain ⟨T2, h2, k2, X2, e2, E2, A2, O2, st2⟩ := newR X0 hx hZ hown (hw _ (List.mem_of_getElem? (i := 0) rfl)) (hw _ (List.mem_of_getElem? (i := 1) rfl)) e0 (g := (mkF m 2 #[.val (.int p1), .unset, .unset, .unset, .unset, .unset] [(.int (8 : Int32))])) rfl (hb hby at_2) rfl (by decide) (cap := 8) (by decide) (by decide) (by decide) (by decide)
  obtain ⟨b2, g2⟩ : ∃ z, z = h0.size := ⟨_, rfl⟩      -- the fresh array's address
  rw [← g2] at A2 st2
  have V_b2 : Arv Z h2 b2 k2 (.object "com/example/warning_recheck/warningrecheck/engine/LibraryFunction") (8 : Int32) [.null, .null, .null, .null, .null, .null, .null, .null] .null := (Arv.new A2 (by decide)).pad (pad_rep [] .null 8)
  have g_b2 : n0 ≤ b2 := Nat.le_trans Z0 (Nat.le_of_eq g2.symm)
  have sz_b2 : h0.size ≤ b2 := (Nat.le_trans (Keep.refl h0 []).1 (Nat.le_of_eq g2.symm))
  have K2 : Keep h0 h2 [] := (Keep.refl h0 []).ext E2
  obtain ⟨T4, X4, e4, st4⟩ := getS2 X2 hx hZ hown (host := "") (Or.inl (hw _ (List.mem_of_getElem? (i := 2) rfl))) Via.refl e2 (own_stak S_MALLOC K2) (g := (mkF m 7 #[.val (.int p1), .unset, .unset, .unset, .unset, .unset] [(.int (0 : Int32)), (.ref b2), (.ref b2)])) rfl (hb hby at_7)
  -- Sto10: the object may lie in that array: Sto.of Ar.. (an 'Ovr', by the sheet's words) (an 'Ins' of its class), Shelf42/RW6; carried by Sto.ext E.. | Sto.wr W..
  obtain ⟨cl_10, Ar_b2, q_b2, S_b2, N_b2, H_b2, G_b2⟩ := V_b2
  have hin10 := inb_of (j := (0 : Int32)) S_b2 ⟨by decide, by decide⟩
  have Sto10 := Sto.ofV Ar_b2 q_b2 O2 (Ins.self (E_w3.keep K2))
  obtain ⟨T5, h5, X5, e5, W5, st5⟩ := stR X4 hx hZ e4 Ar_b2 (j := (0 : Int32)) hin10 rfl Sto10 (g := (mkF m 10 #[.val (.int p1), .unset, .unset, .unset, .unset, .unset] [(.ref w3), (.int (0 : Int32)), (.ref b2), (.ref b2)])) rfl rfl (hb hby at_10)
  have V_b2_5 : Arv Z h5 b2 _ (.object "com/example/warning_recheck/warningrecheck/engine/LibraryFunction") (8 : Int32) [(.ref w3), .null, .null, .null, .null, .null, .null, .null] .null := Arv.set Ar_b2 q_b2 S_b2 N_b2 H_b2 G_b2 rfl W5 0 rfl (Nat.le_of_ble_eq_true rfl)
  have N5 := Fr.snoc X5 N0 g_b2
  -- Ar_b2.same W5 : the array with (.ref w3) at the place (0 : Int32)
  have K5 : Keep h0 h5 [] := K2.wr W5 (Or.inr sz_b2)
  obtain ⟨T7, X7, e7, st7⟩ := getS2 X5 hx hZ hown (host := "") (Or.inl (hw _ (List.mem_of_getElem? (i := 6) rfl))) Via.refl e5 (own_stak S_CALLOC K5) (g := (mkF m 13 #[.val (.int p1), .unset, .unset, .unset, .unset, .unset] [(.int (1 : Int32)), (.ref b2), (.ref b2)])) rfl (hb hby at_13)
  -- Sto16: the object may lie in that array: Sto.of Ar.. (an 'Ovr', by the sheet's words) (an 'Ins' of its class), Shelf42/RW6; carried by Sto.ext E.. | Sto.wr W..
  obtain ⟨cl_16, Ar_b2, q_b2, S_b2, N_b2, H_b2, G_b2⟩ := V_b2_5
  have hin16 := inb_of (j := (1 : Int32)) S_b2 ⟨by decide, by decide⟩
  have Sto16 := Sto.ofV Ar_b2 q_b2 O2 (Ins.self (E_w6.keep K5))
  obtain ⟨T8, h8, X8, e8, W8, st8⟩ := stR X7 hx hZ e7 Ar_b2 (j := (1 : Int32)) hin16 rfl Sto16 (g := (mkF m 16 #[.val (.int p1), .unset, .unset, .unset, .unset, .unset] [(.ref w6), (.int (1 : Int32)), (.ref b2), (.ref b2)])) rfl rfl (hb hby at_16)
  have V_b2_8 : Arv Z h8 b2 _ (.object "com/example/warning_recheck/warningrecheck/engine/LibraryFunction") (8 : Int32) [(.ref w3), (.ref w6), .null, .null, .null, .null, .null, .null] .null := Arv.set Ar_b2 q_b2 S_b2 N_b2 H_b2 G_b2 rfl W8 1 rfl (Nat.le_of_ble_eq_true rfl)
  have N8 := Fr.snoc X8 N5 g_b2
  -- Ar_b2.same W8 : the array with (.ref w6) at the place (1 : Int32)
  have K8 : Keep h0 h8 [] := K5.wr W8 (Or.inr sz_b2)
  obtain ⟨T10, X10, e10, st10⟩ := getS2 X8 hx hZ hown (host := "") (Or.inl (hw _ (List.mem_of_getElem? (i := 8) rfl))) Via.refl e8 (own_stak S_FREE K8) (g := (mkF m 19 #[.val (.int p1), .unset, .unset, .unset, .unset, .unset] [(.int (2 : Int32)), (.ref b2), (.ref b2)])) rfl (hb hby at_19)
  -- Sto22: the object may lie in that array: Sto.of Ar.. (an 'Ovr', by the sheet's words) (an 'Ins' of its class), Shelf42/RW6; carried by Sto.ext E.. | Sto.wr W..
  obtain ⟨cl_22, Ar_b2, q_b2, S_b2, N_b2, H_b2, G_b2⟩ := V_b2_8
  have hin22 := inb_of (j := (2 : Int32)) S_b2 ⟨by decide, by decide⟩
  have Sto22 := Sto.ofV Ar_b2 q_b2 O2 (Ins.self (E_w9.keep K8))
  obtain ⟨T11, h11, X11, e11, W11, st11⟩ := stR X10 hx hZ e10 Ar_b2 (j := (2 : Int32)) hin22 rfl Sto22 (g := (mkF m 22 #[.val (.int p1), .unset, .unset, .unset, .unset, .unset] [(.ref w9), (.int (2 : Int32)), (.ref b2), (.ref b2)])) rfl rfl (hb hby at_22)
  have V_b2_11 : Arv Z h11 b2 _ (.object "com/example/warning_recheck/warningrecheck/engine/LibraryFunction") (8 : Int32) [(.ref w3), (.ref w6), (.ref w9), .null, .null, .null, .null, .null] .null := Arv.set Ar_b2 q_b2 S_b2 N_b2 H_b2 G_b2 rfl W11 2 rfl (Nat.le_of_ble_eq_true rfl)
  have N11 := Fr.snoc X11 N8 g_b2
  -- Ar_b2.same W11 : the array with (.ref w9) at the place (2 : Int32)
  have K11 : Keep h0 h11 [] := K8.wr W11 (Or.inr sz_b2)
  obtain ⟨T13, X13, e13, st13⟩ := getS2 X11 hx hZ hown (host := "") (Or.inl (hw _ (List.mem_of_getElem? (i := 10) rfl))) Via.refl e11 (own_stak S_REALLOC K11) (g := (mkF m 25 #[.val (.int p1), .unset, .unset, .unset, .unset, .unset] [(.int (3 : Int32)), (.ref b2), (.ref b2)])) rfl (hb hby at_25)
  -- Sto28: the object may lie in that array: Sto.of Ar.. (an 'Ovr', by the sheet's words) (an 'Ins' of its class), Shelf42/RW6; carried by Sto.ext E.. | Sto.wr W..
  obtain ⟨cl_28, Ar_b2, q_b2, S_b2, N_b2, H_b2, G_b2⟩ := V_b2_11
  have hin28 := inb_of (j := (3 : Int32)) S_b2 ⟨by decide, by decide⟩
  have Sto28 := Sto.ofV Ar_b2 q_b2 O2 (Ins.self (E_w12.keep K11))
  obtain ⟨T14, h14, X14, e14, W14, st14⟩ := stR X13 hx hZ e13 Ar_b2 (j := (3 : Int32)) hin28 rfl Sto28 (g := (mkF m 28 #[.val (.int p1), .unset, .unset, .unset, .unset, .unset] [(.ref w12), (.int (3 : Int32)), (.ref b2), (.ref b2)])) rfl rfl (hb hby at_28)
  have V_b2_14 : Arv Z h14 b2 _ (.object "com/example/warning_recheck/warningrecheck/engine/LibraryFunction") (8 : Int32) [(.ref w3), (.ref w6), (.ref w9), (.ref w12), .null, .null, .null, .null] .null := Arv.set Ar_b2 q_b2 S_b2 N_b2 H_b2 G_b2 rfl W14 3 rfl (Nat.le_of_ble_eq_true rfl)
  have N14 := Fr.snoc X14 N11 g_b2
  -- Ar_b2.same W14 : the array with (.ref w12) at the place (3 : Int32)
  have K14 : Keep h0 h14 [] := K11.wr W14 (Or.inr sz_b2)
  obtain ⟨T16, X16, e16, st16⟩ := getS2 X14 hx hZ hown (host := "") (Or.inl (hw _ (List.mem_of_getElem? (i := 12) rfl))) Via.refl e14 (own_stak S_ABORT K14) (g := (mkF m 31 #[.val (.int p1), .unset, .unset, .unset, .unset, .unset] [(.int (4 : Int32)), (.ref b2), (.ref b2)])) rfl (hb hby at_31)
  -- Sto34: the object may lie in that array: Sto.of Ar.. (an 'Ovr', by the sheet's words) (an 'Ins' of its class), Shelf42/RW6; carried by Sto.ext E.. | Sto.wr W..
  obtain ⟨cl_34, Ar_b2, q_b2, S_b2, N_b2, H_b2, G_b2⟩ := V_b2_14
  have hin34 := inb_of (j := (4 : Int32)) S_b2 ⟨by decide, by decide⟩
  have Sto34 := Sto.ofV Ar_b2 q_b2 O2 (Ins.self (E_w15.keep K14))
  obtain ⟨T17, h17, X17, e17, W17, st17⟩ := stR X16 hx hZ e16 Ar_b2 (j := (4 : Int32)) hin34 rfl Sto34 (g := (mkF m 34 #[.val (.int p1), .unset, .unset, .unset, .unset, .unset] [(.ref w15), (.int (4 : Int32)), (.ref b2), (.ref b2)])) rfl rfl (hb hby at_34)
  have V_b2_17 : Arv Z h17 b2 _ (.object "com/example/warning_recheck/warningrecheck/engine/LibraryFunction") (8 : Int32) [(.ref w3), (.ref w6), (.ref w9), (.ref w12), (.ref w15), .null, .null, .null] .null := Arv.set Ar_b2 q_b2 S_b2 N_b2 H_b2 G_b2 rfl W17 4 rfl (Nat.le_of_ble_eq_true rfl)
  have N17 := Fr.snoc X17 N14 g_b2
  -- Ar_b2.same W17 : the array with (.ref w15) at the place (4 : Int32)
  have K17 : Keep h0 h17 [] := K14.wr W17 (Or.inr sz_b2)
  obtain ⟨T19, X19, e19, st19⟩ := getS2 X17 hx hZ hown (host := "") (Or.inl (hw _ (List.mem_of_getElem? (i := 14) rfl))) Via.refl e17 (own_stak S_EXIT K17) (g := (mkF m 37 #[.val (.int p1), .unset, .unset, .unset, .unset, .unset] [(.int (5 : Int32)), (.ref b2), (.ref b2)])) rfl (hb hby at_37)
  -- Sto40: the object may lie in that array: Sto.of Ar.. (an 'Ovr', by the sheet's words) (an 'Ins' of its class), Shelf42/RW6; carried by Sto.ext E.. | Sto.wr W..
  obtain ⟨cl_40, Ar_b2, q_b2, S_b2, N_b2, H_b2, G_b2⟩ := V_b2_17
  have hin40 := inb_of (j := (5 : Int32)) S_b2 ⟨by decide, by decide⟩
  have Sto40 := Sto.ofV Ar_b2 q_b2 O2 (Ins.self (E_w18.keep K17))
  obtain ⟨T20, h20, X20, e20, W20, st20⟩ := stR X19 hx hZ e19 Ar_b2 (j := (5 : Int32)) hin40 rfl Sto40 (g := (mkF m 40 #[.val (.int p1), .unset, .unset, .unset, .unset, .unset] [(.ref w18), (.int (5 : Int32)), (.ref b2), (.ref b2)])) rfl rfl (hb hby at_40)
  have V_b2_20 : Arv Z h20 b2 _ (.object "com/example/warning_recheck/warningrecheck/engine/LibraryFunction") (8 : Int32) [(.ref w3), (.ref w6), (.ref w9), (.ref w12), (.ref w15), (.ref w18), .null, .null] .null := Arv.set Ar_b2 q_b2 S_b2 N_b2 H_b2 G_b2 rfl W20 5 rfl (Nat.le_of_ble_eq_true rfl)
  have N20 := Fr.snoc X20 N17 g_b2
  -- Ar_b2.same W20 : the array with (.ref w18) at the place (5 : Int32)
  have K20 : Keep h0 h20 [] := K17.wr W20 (Or.inr sz_b2)
  obtain ⟨T22, X22, e22, st22⟩ := getS2 X20 hx hZ hown (host := "") (Or.inl (hw _ (List.mem_of_getElem? (i := 16) rfl))) Via.refl e20 (own_stak S_IMMEDIATE_EXIT K20) (g := (mkF m 44 #[.val (.int p1), .unset, .unset, .unset, .unset, .unset] [(.int (6 : Int32)), (.ref b2), (.ref b2)])) rfl (hb hby at_44)
  -- Sto47: the object may lie in that array: Sto.of Ar.. (an 'Ovr', by the sheet's words) (an 'Ins' of its class), Shelf42/RW6; carried by Sto.ext E.. | Sto.wr W..
  obtain ⟨cl_47, Ar_b2, q_b2, S_b2, N_b2, H_b2, G_b2⟩ := V_b2_20
  have hin47 := inb_of (j := (6 : Int32)) S_b2 ⟨by decide, by decide⟩
  have Sto47 := Sto.ofV Ar_b2 q_b2 O2 (Ins.self (E_w21.keep K20))
  obtain ⟨T23, h23, X23, e23, W23, st23⟩ := stR X22 hx hZ e22 Ar_b2 (j := (6 : Int32)) hin47 rfl Sto47 (g := (mkF m 47 #[.val (.int p1), .unset, .unset, .unset, .unset, .unset] [(.ref w21), (.int (6 : Int32)), (.ref b2), (.ref b2)])) rfl rfl (hb hby at_47)
  have V_b2_23 : Arv Z h23 b2 _ (.object "com/example/warning_recheck/warningrecheck/engine/LibraryFunction") (8 : Int32) [(.ref w3), (.ref w6), (.ref w9), (.ref w12), (.ref w15), (.ref w18), (.ref w21), .null] .null := Arv.set Ar_b2 q_b2 S_b2 N_b2 H_b2 G_b2 rfl W23 6 rfl (Nat.le_of_ble_eq_true rfl)
  have N23 := Fr.snoc X23 N20 g_b2
  -- Ar_b2.same W23 : the array with (.ref w21) at the place (6 : Int32)
  have K23 : Keep h0 h23 [] := K20.wr W23 (Or.inr sz_b2)
  obtain ⟨T25, X25, e25, st25⟩ := getS2 X23 hx hZ hown (host := "") (Or.inl (hw _ (List.mem_of_getElem? (i := 18) rfl))) Via.refl e23 (own_stak S_QUICK_EXIT K23) (g := (mkF m 51 #[.val (.int p1), .unset, .unset, .unset, .unset, .unset] [(.int (7 : Int32)), (.ref b2), (.ref b2)])) rfl (hb hby at_51)
  -- Sto54: the object may lie in that array: Sto.of Ar.. (an 'Ovr', by the sheet's words) (an 'Ins' of its class), Shelf42/RW6; carried by Sto.ext E.. | Sto.wr W..
  obtain ⟨cl_54, Ar_b2, q_b2, S_b2, N_b2, H_b2, G_b2⟩ := V_b2_23
  have hin54 := inb_of (j := (7 : Int32)) S_b2 ⟨by decide, by decide⟩
  have Sto54 := Sto.ofV Ar_b2 q_b2 O2 (Ins.self (E_w24.keep K23))
  obtain ⟨T26, h26, X26, e26, W26, st26⟩ := stR X25 hx hZ e25 Ar_b2 (j := (7 : Int32)) hin54 rfl Sto54 (g := (mkF m 54 #[.val (.int p1), .unset, .unset, .unset, .unset, .unset] [(.ref w24), (.int (7 : Int32)), (.ref b2), (.ref b2)])) rfl rfl (hb hby at_54)
  have V_b2_26 : Arv Z h26 b2 _ (.object "com/example/warning_recheck/warningrecheck/engine/LibraryFunction") (8 : Int32) [(.ref w3), (.ref w6), (.ref w9), (.ref w12), (.ref w15), (.ref w18), (.ref w21), (.ref w24)] .null := Arv.set Ar_b2 q_b2 S_b2 N_b2 H_b2 G_b2 rfl W26 7 rfl (Nat.le_of_ble_eq_true rfl)
  have N26 := Fr.snoc X26 N23 g_b2
  -- Ar_b2.same W26 : the array with (.ref w24) at the place (7 : Int32)
  have K26 : Keep h0 h26 [] := K23.wr W26 (Or.inr sz_b2)
  obtain ⟨cl_63, Ar_b2_63, q_b2, S_b2, N_b2, H_b2, G_b2⟩ := V_b2_26
  have hin63 := inb_of S_b2 hj63
  have hat63 := H_b2.at hin63 hu63
  have V_b2_p63 : Arv Z h26 b2 _ (.object "com/example/warning_recheck/warningrecheck/engine/LibraryFunction") (8 : Int32) [(.ref w3), (.ref w6), (.ref w9), (.ref w12), (.ref w15), (.ref w18), (.ref w21), (.ref w24)] .null := ⟨cl_63, Ar_b2_63, q_b2, S_b2, N_b2, H_b2, G_b2⟩
  obtain ⟨T28, X28, e28, st28⟩ := getS2 X26 hx hZ hown (host := "") (Or.inl (hw _ (List.mem_of_getElem? (i := 8) rfl))) Via.refl e26 (own_stak S_FREE K26) (g := (mkF m 69 #[.val (.int p1), .val (.ref b2), .val (.int (p1 &&& (7 : Int32))), .val (.ref w27), .val (.int (0 : Int32)), .unset] [(.ref w27)])) rfl (hb hby at_69)
  obtain ⟨T29, X29, e29, st29⟩ := getS2 X28 hx hZ hown (host := "") (Or.inl (hw _ (List.mem_of_getElem? (i := 10) rfl))) Via.refl e28 (own_stak S_REALLOC K26) (g := (mkF m 79 #[.val (.int p1), .val (.ref b2), .val (.int (p1 &&& (7 : Int32))), .val (.ref w27), .val (.int (1 : Int32)), .unset] [(.ref w27)])) rfl (hb hby at_79)
  -- pc 89: com/example/warning_recheck/warningrecheck/engine/LibraryFunction.frees by the contract of the body that the receiver's class selects, rm1
  obtain ⟨cq30, kq30, q30a, q30b, q30c⟩ := isOf hZ e29 (E_w27.keep K26)
  obtain ⟨_, _, ⟨T30, L30, k30, n30⟩, -, X30, ⟨Lc30, hQ30, l30, y30, z30⟩, st30⟩ := X29.virtualBack hx (y := (⟨"com/example/warning_recheck/warningrecheck/engine/LibraryFunction", "frees", "()Z"⟩ : MethodName)) (z := (⟨"com/example/warning_recheck/warningrecheck/engine/LibraryFunction", "frees", "()Z"⟩ : MethodName)) hown (mvT hZ (hw _ (List.mem_of_getElem? (i := 20) rfl))) (mvT hZ (hw _ (List.mem_of_getElem? (i := 21) rfl))) (notFace_of_selects (args := #[]) (mvT hZ (hw _ (List.mem_of_getElem? (i := 23) rfl)))) (mvT hZ (hw _ (List.mem_of_getElem? (i := 23) rfl))) (mvT hZ (hw _ (List.mem_of_getElem? (i := 22) rfl))) (by decide) (backOf (W := 0) (own_1 l Z a0 hw [] w27 (some (.int r30)) h26 n0 (Nat.le_trans Z0 K26.1) (P1_keep K26 hP30)) hZ (hw _ (List.mem_of_getElem? (i := 24) rfl)) (hw _ (List.mem_of_getElem? (i := 3) rfl)) (by decide) (by decide)) q30a q30c (g := (mkF m 89 #[.val (.int p1), .val (.ref b2), .val (.int (p1 &&& (7 : Int32))), .val (.ref w27), .val (.int (1 : Int32)), .unset] [(.ref w27)])) rfl (by rw [hml]; rfl) (Steps.refl _) (argsL := []) (rest := []) (lenOf pd_0_0 rfl) rfl (by show 2 * 0 + _ ≤ _; exact Nat.le_of_eq rfl) (hb hby at_89) (fun _ _ => ⟨rfl, e29, (by decide : 1 + 0 ≤ _), (by decide : 8 + 0 ≤ _)⟩)
  dsimp only [Pt.U, Pt.locs, Pt.cells, Pt.slots] at X30 l30 y30 z30 st30 hQ30
  subst l30 y30 z30
  obtain ⟨rfl, N30q, e30⟩ := hQ30      -- what it returned, that it wrote nothing old, and the rest of your Q1
  have N30 := Fr.app N26 N30q
  -- pc 109: com/example/warning_recheck/warningrecheck/engine/LibraryFunction.returns by the contract of the body that the receiver's class selects, rm2
  obtain ⟨cq31, kq31, q31a, q31b, q31c⟩ := isOf hZ e30 (E_w27.keep K26)
  obtain ⟨_, _, ⟨T31, L31, k31, n31⟩, -, X31, ⟨Lc31, hQ31, l31, y31, z31⟩, st31⟩ := X30.virtualBack hx (y := (⟨"com/example/warning_recheck/warningrecheck/engine/LibraryFunction", "returns", "()Z"⟩ : MethodName)) (z := (⟨"com/example/warning_recheck/warningrecheck/engine/LibraryFunction", "returns", "()Z"⟩ : MethodName)) hown (mvT hZ (hw _ (List.mem_of_getElem? (i := 27) rfl))) (mvT hZ (hw _ (List.mem_of_getElem? (i := 28) rfl))) (notFace_of_selects (args := #[]) (mvT hZ (hw _ (List.mem_of_getElem? (i := 30) rfl)))) (mvT hZ (hw _ (List.mem_of_getElem? (i := 30) rfl))) (mvT hZ (hw _ (List.mem_of_getElem? (i := 29) rfl))) (by decide) (backOf (W := 0) (own_2 l Z a0 hw [] w27 (some (.int r31)) h26 n0 (Nat.le_trans Z0 K26.1) (P2_keep K26 hP31)) hZ (hw _ (List.mem_of_getElem? (i := 31) rfl)) (hw _ (List.mem_of_getElem? (i := 3) rfl)) (by decide) (by decide)) q31a q31c (g := (mkF m 109 #[.val (.int p1), .val (.ref b2), .val (.int (p1 &&& (7 : Int32))), .val (.ref w27), .val (.int (1 : Int32)), .val (.int r30)] [(.ref w27)])) rfl (by rw [hml]; rfl) (Steps.refl _) (argsL := []) (rest := []) (lenOf pd_0_0 rfl) rfl (by show 2 * 0 + _ ≤ _; exact Nat.le_of_eq rfl) (hb hby at_109) (fun _ _ => ⟨rfl, e30, (by decide : 1 + 0 ≤ _), (by decide : 8 + 0 ≤ _)⟩)
  dsimp only [Pt.U, Pt.locs, Pt.cells, Pt.slots] at X31 l31 y31 z31 st31 hQ31
  subst l31 y31 z31
  obtain ⟨rfl, N31q, e31⟩ := hQ31      -- what it returned, that it wrote nothing old, and the rest of your Q2
  have N31 := Fr.app N30 N31q
  obtain ⟨fs, hr, hrun, hended, hW, hsame⟩ := X31.leave (v := some (.int (1 : Int32))) (fun h => by rw [Bd.returns] at h; cases h)
  refine ⟨_, _, pre0 _ ?_, hrun, hended, _, _, rfl, ?_, ⟨_, rfl⟩, hW, hsame.mono (by decide) (by decide)⟩
  -- 4. STEPS
  · show Steps p.tables e below (s₁.setTop (mkF m 0 #[.val (.int p1), .unset, .unset, .unset, .unset, .unset] [])) _
    refine XS.bipush X0.here hx rfl (hb hby at_0) ?_
    show Steps p.tables e below (s₁.setTop (mkF m 2 #[.val (.int p1), .unset, .unset, .unset, .unset, .unset] [(.int (8 : Int32))])) _
    refine st2 _ ?_
    show Steps p.tables e below (T2.setTop (mkF m 5 #[.val (.int p1), .unset, .unset, .unset, .unset, .unset] [(.ref b2)])) _
    refine XS.dup X2.here hx rfl (hb hby at_5) rfl rfl ?_
    show Steps p.tables e below (T2.setTop (mkF m 6 #[.val (.int p1), .unset, .unset, .unset, .unset, .unset] [(.ref b2), (.ref b2)])) _
    refine XS.iconst X2.here hx rfl (hb hby at_6) ?_
    show Steps p.tables e below (T2.setTop (mkF m 7 #[.val (.int p1), .unset, .unset, .unset, .unset, .unset] [(.int (0 : Int32)), (.ref b2), (.ref b2)])) _
    refine st4 _ ?_
    show Steps p.tables e below (T4.setTop (mkF m 10 #[.val (.int p1), .unset, .unset, .unset, .unset, .unset] [(.ref w3), (.int (0 : Int32)), (.ref b2), (.ref b2)])) _
    refine st5 _ ?_
    show Steps p.tables e below (T5.setTop (mkF m 11 #[.val (.int p1), .unset, .unset, .unset, .unset, .unset] [(.ref b2)])) _
    refine XS.dup X5.here hx rfl (hb hby at_11) rfl rfl ?_
    show Steps p.tables e below (T5.setTop (mkF m 12 #[.val (.int p1), .unset, .unset, .unset, .unset, .unset] [(.ref b2), (.ref b2)])) _
    refine XS.iconst X5.here hx rfl (hb hby at_12) ?_
    show Steps p.tables e below (T5.setTop (mkF m 13 #[.val (.int p1), .unset, .unset, .unset, .unset, .unset] [(.int (1 : Int32)), (.ref b2), (.ref b2)])) _
    refine st7 _ ?_
    show Steps p.tables e below (T7.setTop (mkF m 16 #[.val (.int p1), .unset, .unset, .unset, .unset, .unset] [(.ref w6), (.int (1 : Int32)), (.ref b2), (.ref b2)])) _
    refine st8 _ ?_
    show Steps p.tables e below (T8.setTop (mkF m 17 #[.val (.int p1), .unset, .unset, .unset, .unset, .unset] [(.ref b2)])) _
    refine XS.dup X8.here hx rfl (hb hby at_17) rfl rfl ?_
    show Steps p.tables e below (T8.setTop (mkF m 18 #[.val (.int p1), .unset, .unset, .unset, .unset, .unset] [(.ref b2), (.ref b2)])) _
    refine XS.iconst X8.here hx rfl (hb hby at_18) ?_
    show Steps p.tables e below (T8.setTop (mkF m 19 #[.val (.int p1), .unset, .unset, .unset, .unset, .unset] [(.int (2 : Int32)), (.ref b2), (.ref b2)])) _
    refine st10 _ ?_
    show Steps p.tables e below (T10.setTop (mkF m 22 #[.val (.int p1), .unset, .unset, .unset, .unset, .unset] [(.ref w9), (.int (2 : Int32)), (.ref b2), (.ref b2)])) _
    refine st11 _ ?_
    show Steps p.tables e below (T11.setTop (mkF m 23 #[.val (.int p1), .unset, .unset, .unset, .unset, .unset] [(.ref b2)])) _
    refine XS.dup X11.here hx rfl (hb hby at_23) rfl rfl ?_
    show Steps p.tables e below (T11.setTop (mkF m 24 #[.val (.int p1), .unset, .unset, .unset, .unset, .unset] [(.ref b2), (.ref b2)])) _
    refine XS.iconst X11.here hx rfl (hb hby at_24) ?_
    show Steps p.tables e below (T11.setTop (mkF m 25 #[.val (.int p1), .unset, .unset, .unset, .unset, .unset] [(.int (3 : Int32)), (.ref b2), (.ref b2)])) _
    refine st13 _ ?_
    show Steps p.tables e below (T13.setTop (mkF m 28 #[.val (.int p1), .unset, .unset, .unset, .unset, .unset] [(.ref w12), (.int (3 : Int32)), (.ref b2), (.ref b2)])) _
    refine st14 _ ?_
    show Steps p.tables e below (T14.setTop (mkF m 29 #[.val (.int p1), .unset, .unset, .unset, .unset, .unset] [(.ref b2)])) _
    refine XS.dup X14.here hx rfl (hb hby at_29) rfl rfl ?_
    show Steps p.tables e below (T14.setTop (mkF m 30 #[.val (.int p1), .unset, .unset, .unset, .unset, .unset] [(.ref b2), (.ref b2)])) _
    refine XS.iconst X14.here hx rfl (hb hby at_30) ?_
    show Steps p.tables e below (T14.setTop (mkF m 31 #[.val (.int p1), .unset, .unset, .unset, .unset, .unset] [(.int (4 : Int32)), (.ref b2), (.ref b2)])) _
    refine st16 _ ?_
    show Steps p.tables e below (T16.setTop (mkF m 34 #[.val (.int p1), .unset, .unset, .unset, .unset, .unset] [(.ref w15), (.int (4 : Int32)), (.ref b2), (.ref b2)])) _
    refine st17 _ ?_
    show Steps p.tables e below (T17.setTop (mkF m 35 #[.val (.int p1), .unset, .unset, .unset, .unset, .unset] [(.ref b2)])) _
    refine XS.dup X17.here hx rfl (hb hby at_35) rfl rfl ?_
    show Steps p.tables e below (T17.setTop (mkF m 36 #[.val (.int p1), .unset, .unset, .unset, .unset, .unset] [(.ref b2), (.ref b2)])) _
    refine XS.iconst X17.here hx rfl (hb hby at_36) ?_
    show Steps p.tables e below (T17.setTop (mkF m 37 #[.val (.int p1), .unset, .unset, .unset, .unset, .unset] [(.int (5 : Int32)), (.ref b2), (.ref b2)])) _
    refine st19 _ ?_
    show Steps p.tables e below (T19.setTop (mkF m 40 #[.val (.int p1), .unset, .unset, .unset, .unset, .unset] [(.ref w18), (.int (5 : Int32)), (.ref b2), (.ref b2)])) _
    refine st20 _ ?_
    show Steps p.tables e below (T20.setTop (mkF m 41 #[.val (.int p1), .unset, .unset, .unset, .unset, .unset] [(.ref b2)])) _
    refine XS.dup X20.here hx rfl (hb hby at_41) rfl rfl ?_
    show Steps p.tables e below (T20.setTop (mkF m 42 #[.val (.int p1), .unset, .unset, .unset, .unset, .unset] [(.ref b2), (.ref b2)])) _
    refine XS.bipush X20.here hx rfl (hb hby at_42) ?_
    show Steps p.tables e below (T20.setTop (mkF m 44 #[.val (.int p1), .unset, .unset, .unset, .unset, .unset] [(.int (6 : Int32)), (.ref b2), (.ref b2)])) _
    refine st22 _ ?_
    show Steps p.tables e below (T22.setTop (mkF m 47 #[.val (.int p1), .unset, .unset, .unset, .unset, .unset] [(.ref w21), (.int (6 : Int32)), (.ref b2), (.ref b2)])) _
    refine st23 _ ?_
    show Steps p.tables e below (T23.setTop (mkF m 48 #[.val (.int p1), .unset, .unset, .unset, .unset, .unset] [(.ref b2)])) _
    refine XS.dup X23.here hx rfl (hb hby at_48) rfl rfl ?_
    show Steps p.tables e below (T23.setTop (mkF m 49 #[.val (.int p1), .unset, .unset, .unset, .unset, .unset] [(.ref b2), (.ref b2)])) _
    refine XS.bipush X23.here hx rfl (hb hby at_49) ?_
    show Steps p.tables e below (T23.setTop (mkF m 51 #[.val (.int p1), .unset, .unset, .unset, .unset, .unset] [(.int (7 : Int32)), (.ref b2), (.ref b2)])) _
    refine st25 _ ?_
    show Steps p.tables e below (T25.setTop (mkF m 54 #[.val (.int p1), .unset, .unset, .unset, .unset, .unset] [(.ref w24), (.int (7 : Int32)), (.ref b2), (.ref b2)])) _
    refine st26 _ ?_
    show Steps p.tables e below (T26.setTop (mkF m 55 #[.val (.int p1), .unset, .unset, .unset, .unset, .unset] [(.ref b2)])) _
    refine XS.astoreN X26.here hx rfl (hb hby at_55) rfl rfl (l' := #[.val (.int p1), .val (.ref b2), .unset, .unset, .unset, .unset]) rfl ?_
    show Steps p.tables e below (T26.setTop (mkF m 56 #[.val (.int p1), .val (.ref b2), .unset, .unset, .unset, .unset] [])) _
    refine XS.iloadN X26.here hx rfl (hb hby at_56) rfl ?_
    show Steps p.tables e below (T26.setTop (mkF m 57 #[.val (.int p1), .val (.ref b2), .unset, .unset, .unset, .unset] [(.int p1)])) _
    refine XS.bipush X26.here hx rfl (hb hby at_57) ?_
    show Steps p.tables e below (T26.setTop (mkF m 59 #[.val (.int p1), .val (.ref b2), .unset, .unset, .unset, .unset] [(.int (7 : Int32)), (.int p1)])) _
    refine XS.iand X26.here hx rfl (hb hby at_59) rfl ?_
    show Steps p.tables e below (T26.setTop (mkF m 60 #[.val (.int p1), .val (.ref b2), .unset, .unset, .unset, .unset] [(.int (p1 &&& (7 : Int32)))])) _
    refine XS.istoreN X26.here hx rfl (hb hby at_60) rfl (l' := #[.val (.int p1), .val (.ref b2), .val (.int (p1 &&& (7 : Int32))), .unset, .unset, .unset]) rfl ?_
    show Steps p.tables e below (T26.setTop (mkF m 61 #[.val (.int p1), .val (.ref b2), .val (.int (p1 &&& (7 : Int32))), .unset, .unset, .unset] [])) _
    refine XS.aloadN X26.here hx rfl (hb hby at_61) rfl rfl ?_
    show Steps p.tables e below (T26.setTop (mkF m 62 #[.val (.int p1), .val (.ref b2), .val (.int (p1 &&& (7 : Int32))), .unset, .unset, .unset] [(.ref b2)])) _
    refine XS.iloadN X26.here hx rfl (hb hby at_62) rfl ?_
    show Steps p.tables e below (T26.setTop (mkF m 63 #[.val (.int p1), .val (.ref b2), .val (.int (p1 &&& (7 : Int32))), .unset, .unset, .unset] [(.int (p1 &&& (7 : Int32))), (.ref b2)])) _
    refine X26.aaload hx (j := (p1 &&& (7 : Int32))) (v := (.ref w27)) (by rw [e26]; exact Ar_b2_63.1) (State.isArrayOf_alike hZ.alike Ar_b2_63.2.1) rfl Ar_b2_63.2.2 hin63 hat63 (g := (mkF m 63 #[.val (.int p1), .val (.ref b2), .val (.int (p1 &&& (7 : Int32))), .unset, .unset, .unset] [(.int (p1 &&& (7 : Int32))), (.ref b2)])) rfl rfl (hb hby at_63) _ ?_
    show Steps p.tables e below (T26.setTop (mkF m 64 #[.val (.int p1), .val (.ref b2), .val (.int (p1 &&& (7 : Int32))), .unset, .unset, .unset] [(.ref w27)])) _
    refine XS.astoreN X26.here hx rfl (hb hby at_64) rfl rfl (l' := #[.val (.int p1), .val (.ref b2), .val (.int (p1 &&& (7 : Int32))), .val (.ref w27), .unset, .unset]) rfl ?_
    show Steps p.tables e below (T26.setTop (mkF m 65 #[.val (.int p1), .val (.ref b2), .val (.int (p1 &&& (7 : Int32))), .val (.ref w27), .unset, .unset] [])) _
    refine XS.iconst X26.here hx rfl (hb hby at_65) ?_
    show Steps p.tables e below (T26.setTop (mkF m 66 #[.val (.int p1), .val (.ref b2), .val (.int (p1 &&& (7 : Int32))), .val (.ref w27), .unset, .unset] [(.int (0 : Int32))])) _
    refine XS.istore X26.here hx rfl (hb hby at_66) rfl (l' := #[.val (.int p1), .val (.ref b2), .val (.int (p1 &&& (7 : Int32))), .val (.ref w27), .val (.int (0 : Int32)), .unset]) rfl ?_
    show Steps p.tables e below (T26.setTop (mkF m 68 #[.val (.int p1), .val (.ref b2), .val (.int (p1 &&& (7 : Int32))), .val (.ref w27), .val (.int (0 : Int32)), .unset] [])) _
    refine XS.aloadN X26.here hx rfl (hb hby at_68) rfl rfl ?_
    show Steps p.tables e below (T26.setTop (mkF m 69 #[.val (.int p1), .val (.ref b2), .val (.int (p1 &&& (7 : Int32))), .val (.ref w27), .val (.int (0 : Int32)), .unset] [(.ref w27)])) _
    refine st28 _ ?_
    show Steps p.tables e below (T28.setTop (mkF m 72 #[.val (.int p1), .val (.ref b2), .val (.int (p1 &&& (7 : Int32))), .val (.ref w27), .val (.int (0 : Int32)), .unset] [(.ref w9), (.ref w27)])) _
    refine Jvm.RoadKit.acmp (g := (mkF m 72 #[.val (.int p1), .val (.ref b2), .val (.int (p1 &&& (7 : Int32))), .val (.ref w27), .val (.int (0 : Int32)), .unset] [(.ref w9), (.ref w27)])) X28 hx rfl rfl rfl (pc0 := 72) (pc' := 75) (same := true) rfl (hb hby at_72) rfl (decide_eq_true (congrArg Value.ref ha72)) (by decide) (by decide) ?_
    show Steps p.tables e below (T28.setTop (mkF m 75 #[.val (.int p1), .val (.ref b2), .val (.int (p1 &&& (7 : Int32))), .val (.ref w27), .val (.int (0 : Int32)), .unset] [])) _
    refine XS.iconst X28.here hx rfl (hb hby at_75) ?_
    show Steps p.tables e below (T28.setTop (mkF m 76 #[.val (.int p1), .val (.ref b2), .val (.int (p1 &&& (7 : Int32))), .val (.ref w27), .val (.int (0 : Int32)), .unset] [(.int (1 : Int32))])) _
    refine XS.istore X28.here hx rfl (hb hby at_76) rfl (l' := #[.val (.int p1), .val (.ref b2), .val (.int (p1 &&& (7 : Int32))), .val (.ref w27), .val (.int (1 : Int32)), .unset]) rfl ?_
    show Steps p.tables e below (T28.setTop (mkF m 78 #[.val (.int p1), .val (.ref b2), .val (.int (p1 &&& (7 : Int32))), .val (.ref w27), .val (.int (1 : Int32)), .unset] [])) _
    refine XS.aloadN X28.here hx rfl (hb hby at_78) rfl rfl ?_
    show Steps p.tables e below (T28.setTop (mkF m 79 #[.val (.int p1), .val (.ref b2), .val (.int (p1 &&& (7 : Int32))), .val (.ref w27), .val (.int (1 : Int32)), .unset] [(.ref w27)])) _
    refine st29 _ ?_
    show Steps p.tables e below (T29.setTop (mkF m 82 #[.val (.int p1), .val (.ref b2), .val (.int (p1 &&& (7 : Int32))), .val (.ref w27), .val (.int (1 : Int32)), .unset] [(.ref w12), (.ref w27)])) _
    refine Jvm.RoadKit.acmp (g := (mkF m 82 #[.val (.int p1), .val (.ref b2), .val (.int (p1 &&& (7 : Int32))), .val (.ref w27), .val (.int (1 : Int32)), .unset] [(.ref w12), (.ref w27)])) X29 hx rfl rfl rfl (pc0 := 82) (pc' := 88) (same := false) rfl (hb hby at_82) rfl (decide_eq_false fun q => ha82 (Value.ref.inj q)) (by decide) (by decide) ?_
    show Steps p.tables e below (T29.setTop (mkF m 88 #[.val (.int p1), .val (.ref b2), .val (.int (p1 &&& (7 : Int32))), .val (.ref w27), .val (.int (1 : Int32)), .unset] [])) _
    refine XS.aloadN X29.here hx rfl (hb hby at_88) rfl rfl ?_
    show Steps p.tables e below (T29.setTop (mkF m 89 #[.val (.int p1), .val (.ref b2), .val (.int (p1 &&& (7 : Int32))), .val (.ref w27), .val (.int (1 : Int32)), .unset] [(.ref w27)])) _
    refine st30.trans ?_
    show Steps p.tables e below (T30.setTop (mkF m 92 #[.val (.int p1), .val (.ref b2), .val (.int (p1 &&& (7 : Int32))), .val (.ref w27), .val (.int (1 : Int32)), .unset] [(.int r30)])) _
    refine XS.istore X30.here hx rfl (hb hby at_92) rfl (l' := #[.val (.int p1), .val (.ref b2), .val (.int (p1 &&& (7 : Int32))), .val (.ref w27), .val (.int (1 : Int32)), .val (.int r30)]) rfl ?_
    show Steps p.tables e below (T30.setTop (mkF m 94 #[.val (.int p1), .val (.ref b2), .val (.int (p1 &&& (7 : Int32))), .val (.ref w27), .val (.int (1 : Int32)), .val (.int r30)] [])) _
    refine XS.iload X30.here hx rfl (hb hby at_94) rfl ?_
    show Steps p.tables e below (T30.setTop (mkF m 96 #[.val (.int p1), .val (.ref b2), .val (.int (p1 &&& (7 : Int32))), .val (.ref w27), .val (.int (1 : Int32)), .val (.int r30)] [(.int r30)])) _
    refine XS.iload X30.here hx rfl (hb hby at_96) rfl ?_
    show Steps p.tables e below (T30.setTop (mkF m 98 #[.val (.int p1), .val (.ref b2), .val (.int (p1 &&& (7 : Int32))), .val (.ref w27), .val (.int (1 : Int32)), .val (.int r30)] [(.int (1 : Int32)), (.int r30)])) _
    refine XS.icmpYes X30.here hx rfl (pc0 := 98) (pc' := 103) rfl (hb hby at_98) rfl (teq hx1).1 (by decide) (by decide) ?_
    show Steps p.tables e below (T30.setTop (mkF m 103 #[.val (.int p1), .val (.ref b2), .val (.int (p1 &&& (7 : Int32))), .val (.ref w27), .val (.int (1 : Int32)), .val (.int r30)] [])) _
    refine XS.iload X30.here hx rfl (hb hby at_103) rfl ?_
    show Steps p.tables e below (T30.setTop (mkF m 105 #[.val (.int p1), .val (.ref b2), .val (.int (p1 &&& (7 : Int32))), .val (.ref w27), .val (.int (1 : Int32)), .val (.int r30)] [(.int r30)])) _
    refine XS.ifNo X30.here hx rfl (hb hby at_105) rfl ((if0 _ _).trans (feq hx2).1) ?_
    show Steps p.tables e below (T30.setTop (mkF m 108 #[.val (.int p1), .val (.ref b2), .val (.int (p1 &&& (7 : Int32))), .val (.ref w27), .val (.int (1 : Int32)), .val (.int r30)] [])) _
    refine XS.aloadN X30.here hx rfl (hb hby at_108) rfl rfl ?_
    show Steps p.tables e below (T30.setTop (mkF m 109 #[.val (.int p1), .val (.ref b2), .val (.int (p1 &&& (7 : Int32))), .val (.ref w27), .val (.int (1 : Int32)), .val (.int r30)] [(.ref w27)])) _
    refine st31.trans ?_
    show Steps p.tables e below (T31.setTop (mkF m 112 #[.val (.int p1), .val (.ref b2), .val (.int (p1 &&& (7 : Int32))), .val (.ref w27), .val (.int (1 : Int32)), .val (.int r30)] [(.int r31)])) _
    refine XS.ifYes X31.here hx rfl (pc0 := 112) (pc' := 117) rfl (hb hby at_112) rfl ((if0 _ _).trans (feq hx3).2) (by decide) (by decide) ?_
    show Steps p.tables e below (T31.setTop (mkF m 117 #[.val (.int p1), .val (.ref b2), .val (.int (p1 &&& (7 : Int32))), .val (.ref w27), .val (.int (1 : Int32)), .val (.int r30)] [])) _
    refine XS.iconst X31.here hx rfl (hb hby at_117) ?_
    show Steps p.tables e below (T31.setTop (mkF m 118 #[.val (.int p1), .val (.ref b2), .val (.int (p1 &&& (7 : Int32))), .val (.ref w27), .val (.int (1 : Int32)), .val (.int r30)] [(.int (1 : Int32))])) _
    exact retN X31 hx (t := .boolean) Bd.returns (by simp) (hb hby at_118) hr
  · show Q0_fttft Z p1 w3 w6 w9 w12 w15 w18 w21 w24 w27 h0 n0 _ T31.heap _
    exact ⟨rfl, N31⟩
def Q0_tftft (Z : State) (p1 : Int32) (w3 : Addr) (w6 : Addr) (w9 : Addr) (w12 : Addr) (w15 : Addr) (w18 : Addr) (w21 : Addr) (w24 : Addr) (w27 : Addr) (h0 : Heap) (n0 : Nat) (v : Option Value) (h : Heap) (L : List Loc) : Prop := v = some (.int (1 : Int32)) ∧ Fr n0 L
set_option maxRecDepth 65536 in
set_option maxHeartbeats 40000000 in
theorem rm0_tftft (l : Launch) (Z : State) (a0 : Array Value) (hw : ∀ d ∈ tables_1, d.before a0 Z = true) (ws : List Jvm.Cond) (p1 : Int32) (w3 : Addr) (w6 : Addr) (w9 : Addr) (w12 : Addr) (w15 : Addr) (w18 : Addr) (w21 : Addr) (w24 : Addr) (w27 : Addr) (r30 : Int32) (r31 : Int32) (h0 : Heap) (n0 : Nat) (Z0 : n0 ≤ h0.size) (S_MALLOC : Sta Z h0 "com/example/warning_recheck/warningrecheck/engine/LibraryFunction" "MALLOC" "Lcom/example/warning_recheck/warningrecheck/engine/LibraryFunction;" (.ref w3)) (S_CALLOC : Sta Z h0 "com/example/warning_recheck/warningrecheck/engine/LibraryFunction" "CALLOC" "Lcom/example/warning_recheck/warningrecheck/engine/LibraryFunction;" (.ref w6)) (S_FREE : Sta Z h0 "com/example/warning_recheck/warningrecheck/engine/LibraryFunction" "FREE" "Lcom/example/warning_recheck/warningrecheck/engine/LibraryFunction;" (.ref w9)) (S_REALLOC : Sta Z h0 "com/example/warning_recheck/warningrecheck/engine/LibraryFunction" "REALLOC" "Lcom/example/warning_recheck/warningrecheck/engine/LibraryFunction;" (.ref w12)) (S_ABORT : Sta Z h0 "com/example/warning_recheck/warningrecheck/engine/LibraryFunction" "ABORT" "Lcom/example/warning_recheck/warningrecheck/engine/LibraryFunction;" (.ref w15)) (S_EXIT : Sta Z h0 "com/example/warning_recheck/warningrecheck/engine/LibraryFunction" "EXIT" "Lcom/example/warning_recheck/warningrecheck/engine/LibraryFunction;" (.ref w18)) (S_IMMEDIATE_EXIT : Sta Z h0 "com/example/warning_recheck/warningrecheck/engine/LibraryFunction" "IMMEDIATE_EXIT" "Lcom/example/warning_recheck/warningrecheck/engine/LibraryFunction;" (.ref w21)) (S_QUICK_EXIT : Sta Z h0 "com/example/warning_recheck/warningrecheck/engine/LibraryFunction" "QUICK_EXIT" "Lcom/example/warning_recheck/warningrecheck/engine/LibraryFunction;" (.ref w24)) (E_w27 : Exa Z h0 w27 "com/example/warning_recheck/warningrecheck/engine/LibraryFunction") (ha72 : ¬ (w27 = w9)) (ha82 : w27 = w12) (E_w3 : Exa Z h0 w3 "com/example/warning_recheck/warningrecheck/engine/LibraryFunction") (E_w6 : Exa Z h0 w6 "com/example/warning_recheck/warningrecheck/engine/LibraryFunction") (E_w9 : Exa Z h0 w9 "com/example/warning_recheck/warningrecheck/engine/LibraryFunction") (E_w12 : Exa Z h0 w12 "com/example/warning_recheck/warningrecheck/engine/LibraryFunction") (E_w15 : Exa Z h0 w15 "com/example/warning_recheck/warningrecheck/engine/LibraryFunction") (E_w18 : Exa Z h0 w18 "com/example/warning_recheck/warningrecheck/engine/LibraryFunction") (E_w21 : Exa Z h0 w21 "com/example/warning_recheck/warningrecheck/engine/LibraryFunction") (E_w24 : Exa Z h0 w24 "com/example/warning_recheck/warningrecheck/engine/LibraryFunction") (hj63 : ¬ (p1 &&& (7 : Int32)) < 0 ∧ (p1 &&& (7 : Int32)) < (8 : Int32)) (hu63 : ([(.ref w3), (.ref w6), (.ref w9), (.ref w12), (.ref w15), (.ref w18), (.ref w21), (.ref w24)] : List Value).getD ((p1 &&& (7 : Int32))).toNatClampNeg .null = (.ref w27)) (hP30 : P1 Z h0 w27 (some (.int r30))) (hP31 : P2 Z h0 w27 (some (.int r31))) (hx1 : r30 = (1 : Int32)) (hx2 : ¬ (r30 = (0 : Int32))) (hx3 : ¬ (r31 = (0 : Int32))) :
    MetFree l x (head1 (Jvm.Cond.code x code maxLocals ret :: ws) room_1) (fun a U => a = #[(.int p1)] ∧ Z.Warmed39 U.vm ∧ U.heap = h0) (fun _ _ _ _ _ => True) (fun _ U o U' => ∃ v L, o = .returned v ∧ Q0_tftft Z p1 w3 w6 w9 w12 w15 w18 w21 w24 w27 h0 n0 v U'.heap L ∧ FrameEnd U o U' L room_1.cells room_1.slots) := by
  refine MetFree.of_bodySF (plainFor_of_name pn_0) hisR ?_
  intro p e s m args below meth c s₁ Bd hml0 hP hK
  obtain ⟨rfl, hZ, hh⟩ := hP
  have hx := Bd.exec
  have hby := Bd.bytes
  have hml : c.maxLocals = 6 := hml0
  have hown : s.vm.findClass "com/example/warning_recheck/warningrecheck/engine/LibraryFunctionFreesPinLaw" = some m.cls := findClass_of_methodNamed Bd.named
  have hnm := (name_of_methodNamed Bd.named Bd.method).1
  have X0 : Stand p l e room_1 s m #[(.int p1)] below meth c s₁ [] 0 0 := Stand.of_body Bd
  have e0 : s₁.heap = h0 := by rw [← hh, Bd.state]; rfl
  have N0 := Fr.nil n0
  have pre0 : ∀ t, Steps p.tables e below (s₁.setTop (mkF m 0 #[.val (.int p1), .unset, .unset, .unset, .unset, .unset] [])) t → Steps p.tables e below (s₁.setTop (entryFrame m #[(.int p1)] maxLocals)) t := fun t k => castTop (ef_0 m p1) k
  -- 3. LAWS
  obtain ⟨T2, h2, k2, X2, e2, E2, A2, O2, st2⟩ := newR X0 hx hZ hown (hw _ (List.mem_of_getElem? (i := 0) rfl)) (hw _ (List.mem_of_getElem? (i := 1) rfl)) e0 (g := (mkF m 2 #[.val (.int p1), .unset, .unset, .unset, .unset, .unset] [(.int (8 : Int32))])) rfl (hb hby at_2) rfl (by decide) (cap := 8) (by decide) (by decide) (by decide) (by decide)
  obtain ⟨b2, g2⟩ : ∃ z, z = h0.size := ⟨_, rfl⟩      -- the fresh array's address
  rw [← g2] at A2 st2
  have V_b2 : Arv Z h2 b2 k2 (.object "com/example/warning_recheck/warningrecheck/engine/LibraryFunction") (8 : Int32) [.null, .null, .null, .null, .null, .null, .null, .null] .null := (Arv.new A2 (by decide)).pad (pad_rep [] .null 8)
  have g_b2 : n0 ≤ b2 := Nat.le_trans Z0 (Nat.le_of_eq g2.symm)
  have sz_b2 : h0.size ≤ b2 := (Nat.le_trans (Keep.refl h0 []).1 (Nat.le_of_eq g2.symm))
  have K2 : Keep h0 h2 [] := (Keep.refl h0 []).ext E2
  obtain ⟨T4, X4, e4, st4⟩ := getS2 X2 hx hZ hown (host := "") (Or.inl (hw _ (List.mem_of_getElem? (i := 2) rfl))) Via.refl e2 (own_stak S_MALLOC K2) (g := (mkF m 7 #[.val (.int p1), .unset, .unset, .unset, .unset, .unset] [(.int (0 : Int32)), (.ref b2), (.ref b2)])) rfl (hb hby at_7)
  -- Sto10: the object may lie in that array: Sto.of Ar.. (an 'Ovr', by the sheet's words) (an 'Ins' of its class), Shelf42/RW6; carried by Sto.ext E.. | Sto.wr W..
  obtain ⟨cl_10, Ar_b2, q_b2, S_b2, N_b2, H_b2, G_b2⟩ := V_b2
  have hin10 := inb_of (j := (0 : Int32)) S_b2 ⟨by decide, by decide⟩
  have Sto10 := Sto.ofV Ar_b2 q_b2 O2 (Ins.self (E_w3.keep K2))
  obtain ⟨T5, h5, X5, e5, W5, st5⟩ := stR X4 hx hZ e4 Ar_b2 (j := (0 : Int32)) hin10 rfl Sto10 (g := (mkF m 10 #[.val (.int p1), .unset, .unset, .unset, .unset, .unset] [(.ref w3), (.int (0 : Int32)), (.ref b2), (.ref b2)])) rfl rfl (hb hby at_10)
  have V_b2_5 : Arv Z h5 b2 _ (.object "com/example/warning_recheck/warningrecheck/engine/LibraryFunction") (8 : Int32) [(.ref w3), .null, .null, .null, .null, .null, .null, .null] .null := Arv.set Ar_b2 q_b2 S_b2 N_b2 H_b2 G_b2 rfl W5 0 rfl (Nat.le_of_ble_eq_true rfl)
  have N5 := Fr.snoc X5 N0 g_b2
  -- Ar_b2.same W5 : the array with (.ref w3) at the place (0 : Int32)
  have K5 : Keep h0 h5 [] := K2.wr W5 (Or.inr sz_b2)
  obtain ⟨T7, X7, e7, st7⟩ := getS2 X5 hx hZ hown (host := "") (Or.inl (hw _ (List.mem_of_getElem? (i := 6) rfl))) Via.refl e5 (own_stak S_CALLOC K5) (g := (mkF m 13 #[.val (.int p1), .unset, .unset, .unset, .unset, .unset] [(.int (1 : Int32)), (.ref b2), (.ref b2)])) rfl (hb hby at_13)
  -- Sto16: the object may lie in that array: Sto.of Ar.. (an 'Ovr', by the sheet's words) (an 'Ins' of its class), Shelf42/RW6; carried by Sto.ext E.. | Sto.wr W..
  obtain ⟨cl_16, Ar_b2, q_b2, S_b2, N_b2, H_b2, G_b2⟩ := V_b2_5
  have hin16 := inb_of (j := (1 : Int32)) S_b2 ⟨by decide, by decide⟩
  have Sto16 := Sto.ofV Ar_b2 q_b2 O2 (Ins.self (E_w6.keep K5))
  obtain ⟨T8, h8, X8, e8, W8, st8⟩ := stR X7 hx hZ e7 Ar_b2 (j := (1 : Int32)) hin16 rfl Sto16 (g := (mkF m 16 #[.val (.int p1), .unset, .unset, .unset, .unset, .unset] [(.ref w6), (.int (1 : Int32)), (.ref b2), (.ref b2)])) rfl rfl (hb hby at_16)
  have V_b2_8 : Arv Z h8 b2 _ (.object "com/example/warning_recheck/warningrecheck/engine/LibraryFunction") (8 : Int32) [(.ref w3), (.ref w6), .null, .null, .null, .null, .null, .null] .null := Arv.set Ar_b2 q_b2 S_b2 N_b2 H_b2 G_b2 rfl W8 1 rfl (Nat.le_of_ble_eq_true rfl)
  have N8 := Fr.snoc X8 N5 g_b2
  -- Ar_b2.same W8 : the array with (.ref w6) at the place (1 : Int32)
  have K8 : Keep h0 h8 [] := K5.wr W8 (Or.inr sz_b2)
  obtain ⟨T10, X10, e10, st10⟩ := getS2 X8 hx hZ hown (host := "") (Or.inl (hw _ (List.mem_of_getElem? (i := 8) rfl))) Via.refl e8 (own_stak S_FREE K8) (g := (mkF m 19 #[.val (.int p1), .unset, .unset, .unset, .unset, .unset] [(.int (2 : Int32)), (.ref b2), (.ref b2)])) rfl (hb hby at_19)
  -- Sto22: the object may lie in that array: Sto.of Ar.. (an 'Ovr', by the sheet's words) (an 'Ins' of its class), Shelf42/RW6; carried by Sto.ext E.. | Sto.wr W..
  obtain ⟨cl_22, Ar_b2, q_b2, S_b2, N_b2, H_b2, G_b2⟩ := V_b2_8
  have hin22 := inb_of (j := (2 : Int32)) S_b2 ⟨by decide, by decide⟩
  have Sto22 := Sto.ofV Ar_b2 q_b2 O2 (Ins.self (E_w9.keep K8))
  obtain ⟨T11, h11, X11, e11, W11, st11⟩ := stR X10 hx hZ e10 Ar_b2 (j := (2 : Int32)) hin22 rfl Sto22 (g := (mkF m 22 #[.val (.int p1), .unset, .unset, .unset, .unset, .unset] [(.ref w9), (.int (2 : Int32)), (.ref b2), (.ref b2)])) rfl rfl (hb hby at_22)
  have V_b2_11 : Arv Z h11 b2 _ (.object "com/example/warning_recheck/warningrecheck/engine/LibraryFunction") (8 : Int32) [(.ref w3), (.ref w6), (.ref w9), .null, .null, .null, .null, .null] .null := Arv.set Ar_b2 q_b2 S_b2 N_b2 H_b2 G_b2 rfl W11 2 rfl (Nat.le_of_ble_eq_true rfl)
  have N11 := Fr.snoc X11 N8 g_b2
  -- Ar_b2.same W11 : the array with (.ref w9) at the place (2 : Int32)
  have K11 : Keep h0 h11 [] := K8.wr W11 (Or.inr sz_b2)
  obtain ⟨T13, X13, e13, st13⟩ := getS2 X11 hx hZ hown (host := "") (Or.inl (hw _ (List.mem_of_getElem? (i := 10) rfl))) Via.refl e11 (own_stak S_REALLOC K11) (g := (mkF m 25 #[.val (.int p1), .unset, .unset, .unset, .unset, .unset] [(.int (3 : Int32)), (.ref b2), (.ref b2)])) rfl (hb hby at_25)
  -- Sto28: the object may lie in that array: Sto.of Ar.. (an 'Ovr', by the sheet's words) (an 'Ins' of its class), Shelf42/RW6; carried by Sto.ext E.. | Sto.wr W..
  obtain ⟨cl_28, Ar_b2, q_b2, S_b2, N_b2, H_b2, G_b2⟩ := V_b2_11
  have hin28 := inb_of (j := (3 : Int32)) S_b2 ⟨by decide, by decide⟩
  have Sto28 := Sto.ofV Ar_b2 q_b2 O2 (Ins.self (E_w12.keep K11))
  obtain ⟨T14, h14, X14, e14, W14, st14⟩ := stR X13 hx hZ e13 Ar_b2 (j := (3 : Int32)) hin28 rfl Sto28 (g := (mkF m 28 #[.val (.int p1), .unset, .unset, .unset, .unset, .unset] [(.ref w12), (.int (3 : Int32)), (.ref b2), (.ref b2)])) rfl rfl (hb hby at_28)
  have V_b2_14 : Arv Z h14 b2 _ (.object "com/example/warning_recheck/warningrecheck/engine/LibraryFunction") (8 : Int32) [(.ref w3), (.ref w6), (.ref w9), (.ref w12), .null, .null, .null, .null] .null := Arv.set Ar_b2 q_b2 S_b2 N_b2 H_b2 G_b2 rfl W14 3 rfl (Nat.le_of_ble_eq_true rfl)
  have N14 := Fr.snoc X14 N11 g_b2
  -- Ar_b2.same W14 : the array with (.ref w12) at the place (3 : Int32)
  have K14 : Keep h0 h14 [] := K11.wr W14 (Or.inr sz_b2)
  obtain ⟨T16, X16, e16, st16⟩ := getS2 X14 hx hZ hown (host := "") (Or.inl (hw _ (List.mem_of_getElem? (i := 12) rfl))) Via.refl e14 (own_stak S_ABORT K14) (g := (mkF m 31 #[.val (.int p1), .unset, .unset, .unset, .unset, .unset] [(.int (4 : Int32)), (.ref b2), (.ref b2)])) rfl (hb hby at_31)
  -- Sto34: the object may lie in that array: Sto.of Ar.. (an 'Ovr', by the sheet's words) (an 'Ins' of its class), Shelf42/RW6; carried by Sto.ext E.. | Sto.wr W..
  obtain ⟨cl_34, Ar_b2, q_b2, S_b2, N_b2, H_b2, G_b2⟩ := V_b2_14
  have hin34 := inb_of (j := (4 : Int32)) S_b2 ⟨by decide, by decide⟩
  have Sto34 := Sto.ofV Ar_b2 q_b2 O2 (Ins.self (E_w15.keep K14))
  obtain ⟨T17, h17, X17, e17, W17, st17⟩ := stR X16 hx hZ e16 Ar_b2 (j := (4 : Int32)) hin34 rfl Sto34 (g := (mkF m 34 #[.val (.int p1), .unset, .unset, .unset, .unset, .unset] [(.ref w15), (.int (4 : Int32)), (.ref b2), (.ref b2)])) rfl rfl (hb hby at_34)
  have V_b2_17 : Arv Z h17 b2 _ (.object "com/example/warning_recheck/warningrecheck/engine/LibraryFunction") (8 : Int32) [(.ref w3), (.ref w6), (.ref w9), (.ref w12), (.ref w15), .null, .null, .null] .null := Arv.set Ar_b2 q_b2 S_b2 N_b2 H_b2 G_b2 rfl W17 4 rfl (Nat.le_of_ble_eq_true rfl)
  have N17 := Fr.snoc X17 N14 g_b2
  -- Ar_b2.same W17 : the array with (.ref w15) at the place (4 : Int32)
  have K17 : Keep h0 h17 [] := K14.wr W17 (Or.inr sz_b2)
  obtain ⟨T19, X19, e19, st19⟩ := getS2 X17 hx hZ hown (host := "") (Or.inl (hw _ (List.mem_of_getElem? (i := 14) rfl))) Via.refl e17 (own_stak S_EXIT K17) (g := (mkF m 37 #[.val (.int p1), .unset, .unset, .unset, .unset, .unset] [(.int (5 : Int32)), (.ref b2), (.ref b2)])) rfl (hb hby at_37)
  -- Sto40: the object may lie in that array: Sto.of Ar.. (an 'Ovr', by the sheet's words) (an 'Ins' of its class), Shelf42/RW6; carried by Sto.ext E.. | Sto.wr W..
  obtain ⟨cl_40, Ar_b2, q_b2, S_b2, N_b2, H_b2, G_b2⟩ := V_b2_17
  have hin40 := inb_of (j := (5 : Int32)) S_b2 ⟨by decide, by decide⟩
  have Sto40 := Sto.ofV Ar_b2 q_b2 O2 (Ins.self (E_w18.keep K17))
  obtain ⟨T20, h20, X20, e20, W20, st20⟩ := stR X19 hx hZ e19 Ar_b2 (j := (5 : Int32)) hin40 rfl Sto40 (g := (mkF m 40 #[.val (.int p1), .unset, .unset, .unset, .unset, .unset] [(.ref w18), (.int (5 : Int32)), (.ref b2), (.ref b2)])) rfl rfl (hb hby at_40)
  have V_b2_20 : Arv Z h20 b2 _ (.object "com/example/warning_recheck/warningrecheck/engine/LibraryFunction") (8 : Int32) [(.ref w3), (.ref w6), (.ref w9), (.ref w12), (.ref w15), (.ref w18), .null, .null] .null := Arv.set Ar_b2 q_b2 S_b2 N_b2 H_b2 G_b2 rfl W20 5 rfl (Nat.le_of_ble_eq_true rfl)
  have N20 := Fr.snoc X20 N17 g_b2
  -- Ar_b2.same W20 : the array with (.ref w18) at the place (5 : Int32)
  have K20 : Keep h0 h20 [] := K17.wr W20 (Or.inr sz_b2)
  obtain ⟨T22, X22, e22, st22⟩ := getS2 X20 hx hZ hown (host := "") (Or.inl (hw _ (List.mem_of_getElem? (i := 16) rfl))) Via.refl e20 (own_stak S_IMMEDIATE_EXIT K20) (g := (mkF m 44 #[.val (.int p1), .unset, .unset, .unset, .unset, .unset] [(.int (6 : Int32)), (.ref b2), (.ref b2)])) rfl (hb hby at_44)
  -- Sto47: the object may lie in that array: Sto.of Ar.. (an 'Ovr', by the sheet's words) (an 'Ins' of its class), Shelf42/RW6; carried by Sto.ext E.. | Sto.wr W..
  obtain ⟨cl_47, Ar_b2, q_b2, S_b2, N_b2, H_b2, G_b2⟩ := V_b2_20
  have hin47 := inb_of (j := (6 : Int32)) S_b2 ⟨by decide, by decide⟩
  have Sto47 := Sto.ofV Ar_b2 q_b2 O2 (Ins.self (E_w21.keep K20))
  obtain ⟨T23, h23, X23, e23, W23, st23⟩ := stR X22 hx hZ e22 Ar_b2 (j := (6 : Int32)) hin47 rfl Sto47 (g := (mkF m 47 #[.val (.int p1), .unset, .unset, .unset, .unset, .unset] [(.ref w21), (.int (6 : Int32)), (.ref b2), (.ref b2)])) rfl rfl (hb hby at_47)
  have V_b2_23 : Arv Z h23 b2 _ (.object "com/example/warning_recheck/warningrecheck/engine/LibraryFunction") (8 : Int32) [(.ref w3), (.ref w6), (.ref w9), (.ref w12), (.ref w15), (.ref w18), (.ref w21), .null] .null := Arv.set Ar_b2 q_b2 S_b2 N_b2 H_b2 G_b2 rfl W23 6 rfl (Nat.le_of_ble_eq_true rfl)
  have N23 := Fr.snoc X23 N20 g_b2
  -- Ar_b2.same W23 : the array with (.ref w21) at the place (6 : Int32)
  have K23 : Keep h0 h23 [] := K20.wr W23 (Or.inr sz_b2)
  obtain ⟨T25, X25, e25, st25⟩ := getS2 X23 hx hZ hown (host := "") (Or.inl (hw _ (List.mem_of_getElem? (i := 18) rfl))) Via.refl e23 (own_stak S_QUICK_EXIT K23) (g := (mkF m 51 #[.val (.int p1), .unset, .unset, .unset, .unset, .unset] [(.int (7 : Int32)), (.ref b2), (.ref b2)])) rfl (hb hby at_51)
  -- Sto54: the object may lie in that array: Sto.of Ar.. (an 'Ovr', by the sheet's words) (an 'Ins' of its class), Shelf42/RW6; carried by Sto.ext E.. | Sto.wr W..
  obtain ⟨cl_54, Ar_b2, q_b2, S_b2, N_b2, H_b2, G_b2⟩ := V_b2_23
  have hin54 := inb_of (j := (7 : Int32)) S_b2 ⟨by decide, by decide⟩
  have Sto54 := Sto.ofV Ar_b2 q_b2 O2 (Ins.self (E_w24.keep K23))
  obtain ⟨T26, h26, X26, e26, W26, st26⟩ := stR X25 hx hZ e25 Ar_b2 (j := (7 : Int32)) hin54 rfl Sto54 (g := (mkF m 54 #[.val (.int p1), .unset, .unset, .unset, .unset, .unset] [(.ref w24), (.int (7 : Int32)), (.ref b2), (.ref b2)])) rfl rfl (hb hby at_54)
  have V_b2_26 : Arv Z h26 b2 _ (.object "com/example/warning_recheck/warningrecheck/engine/LibraryFunction") (8 : Int32) [(.ref w3), (.ref w6), (.ref w9), (.ref w12), (.ref w15), (.ref w18), (.ref w21), (.ref w24)] .null := Arv.set Ar_b2 q_b2 S_b2 N_b2 H_b2 G_b2 rfl W26 7 rfl (Nat.le_of_ble_eq_true rfl)
  have N26 := Fr.snoc X26 N23 g_b2
  -- Ar_b2.same W26 : the array with (.ref w24) at the place (7 : Int32)
  have K26 : Keep h0 h26 [] := K23.wr W26 (Or.inr sz_b2)
  obtain ⟨cl_63, Ar_b2_63, q_b2, S_b2, N_b2, H_b2, G_b2⟩ := V_b2_26
  have hin63 := inb_of S_b2 hj63
  have hat63 := H_b2.at hin63 hu63
  have V_b2_p63 : Arv Z h26 b2 _ (.object "com/example/warning_recheck/warningrecheck/engine/LibraryFunction") (8 : Int32) [(.ref w3), (.ref w6), (.ref w9), (.ref w12), (.ref w15), (.ref w18), (.ref w21), (.ref w24)] .null := ⟨cl_63, Ar_b2_63, q_b2, S_b2, N_b2, H_b2, G_b2⟩
  obtain ⟨T28, X28, e28, st28⟩ := getS2 X26 hx hZ hown (host := "") (Or.inl (hw _ (List.mem_of_getElem? (i := 8) rfl))) Via.refl e26 (own_stak S_FREE K26) (g := (mkF m 69 #[.val (.int p1), .val (.ref b2), .val (.int (p1 &&& (7 : Int32))), .val (.ref w27), .val (.int (0 : Int32)), .unset] [(.ref w27)])) rfl (hb hby at_69)
  obtain ⟨T29, X29, e29, st29⟩ := getS2 X28 hx hZ hown (host := "") (Or.inl (hw _ (List.mem_of_getElem? (i := 10) rfl))) Via.refl e28 (own_stak S_REALLOC K26) (g := (mkF m 79 #[.val (.int p1), .val (.ref b2), .val (.int (p1 &&& (7 : Int32))), .val (.ref w27), .val (.int (0 : Int32)), .unset] [(.ref w27)])) rfl (hb hby at_79)
  -- pc 89: com/example/warning_recheck/warningrecheck/engine/LibraryFunction.frees by the contract of the body that the receiver's class selects, rm1
  obtain ⟨cq30, kq30, q30a, q30b, q30c⟩ := isOf hZ e29 (E_w27.keep K26)
  obtain ⟨_, _, ⟨T30, L30, k30, n30⟩, -, X30, ⟨Lc30, hQ30, l30, y30, z30⟩, st30⟩ := X29.virtualBack hx (y := (⟨"com/example/warning_recheck/warningrecheck/engine/LibraryFunction", "frees", "()Z"⟩ : MethodName)) (z := (⟨"com/example/warning_recheck/warningrecheck/engine/LibraryFunction", "frees", "()Z"⟩ : MethodName)) hown (mvT hZ (hw _ (List.mem_of_getElem? (i := 20) rfl))) (mvT hZ (hw _ (List.mem_of_getElem? (i := 21) rfl))) (notFace_of_selects (args := #[]) (mvT hZ (hw _ (List.mem_of_getElem? (i := 23) rfl)))) (mvT hZ (hw _ (List.mem_of_getElem? (i := 23) rfl))) (mvT hZ (hw _ (List.mem_of_getElem? (i := 22) rfl))) (by decide) (backOf (W := 0) (own_1 l Z a0 hw [] w27 (some (.int r30)) h26 n0 (Nat.le_trans Z0 K26.1) (P1_keep K26 hP30)) hZ (hw _ (List.mem_of_getElem? (i := 24) rfl)) (hw _ (List.mem_of_getElem? (i := 3) rfl)) (by decide) (by decide)) q30a q30c (g := (mkF m 89 #[.val (.int p1), .val (.ref b2), .val (.int (p1 &&& (7 : Int32))), .val (.ref w27), .val (.int (1 : Int32)), .unset] [(.ref w27)])) rfl (by rw [hml]; rfl) (Steps.refl _) (argsL := []) (rest := []) (lenOf pd_0_0 rfl) rfl (by show 2 * 0 + _ ≤ _; exact Nat.le_of_eq rfl) (hb hby at_89) (fun _ _ => ⟨rfl, e29, (by decide : 1 + 0 ≤ _), (by decide : 8 + 0 ≤ _)⟩)
  dsimp only [Pt.U, Pt.locs, Pt.cells, Pt.slots] at X30 l30 y30 z30 st30 hQ30
  subst l30 y30 z30
  obtain ⟨rfl, N30q, e30⟩ := hQ30      -- what it returned, that it wrote nothing old, and the rest of your Q1
  have N30 := Fr.app N26 N30q
  -- pc 109: com/example/warning_recheck/warningrecheck/engine/LibraryFunction.returns by the contract of the body that the receiver's class selects, rm2
  obtain ⟨cq31, kq31, q31a, q31b, q31c⟩ := isOf hZ e30 (E_w27.keep K26)
  obtain ⟨_, _, ⟨T31, L31, k31, n31⟩, -, X31, ⟨Lc31, hQ31, l31, y31, z31⟩, st31⟩ := X30.virtualBack hx (y := (⟨"com/example/warning_recheck/warningrecheck/engine/LibraryFunction", "returns", "()Z"⟩ : MethodName)) (z := (⟨"com/example/warning_recheck/warningrecheck/engine/LibraryFunction", "returns", "()Z"⟩ : MethodName)) hown (mvT hZ (hw _ (List.mem_of_getElem? (i := 27) rfl))) (mvT hZ (hw _ (List.mem_of_getElem? (i := 28) rfl))) (notFace_of_selects (args := #[]) (mvT hZ (hw _ (List.mem_of_getElem? (i := 30) rfl)))) (mvT hZ (hw _ (List.mem_of_getElem? (i := 30) rfl))) (mvT hZ (hw _ (List.mem_of_getElem? (i := 29) rfl))) (by decide) (backOf (W := 0) (own_2 l Z a0 hw [] w27 (some (.int r31)) h26 n0 (Nat.le_trans Z0 K26.1) (P2_keep K26 hP31)) hZ (hw _ (List.mem_of_getElem? (i := 31) rfl)) (hw _ (List.mem_of_getElem? (i := 3) rfl)) (by decide) (by decide)) q31a q31c (g := (mkF m 109 #[.val (.int p1), .val (.ref b2), .val (.int (p1 &&& (7 : Int32))), .val (.ref w27), .val (.int (1 : Int32)), .val (.int r30)] [(.ref w27)])) rfl (by rw [hml]; rfl) (Steps.refl _) (argsL := []) (rest := []) (lenOf pd_0_0 rfl) rfl (by show 2 * 0 + _ ≤ _; exact Nat.le_of_eq rfl) (hb hby at_109) (fun _ _ => ⟨rfl, e30, (by decide : 1 + 0 ≤ _), (by decide : 8 + 0 ≤ _)⟩)
  dsimp only [Pt.U, Pt.locs, Pt.cells, Pt.slots] at X31 l31 y31 z31 st31 hQ31
  subst l31 y31 z31
  obtain ⟨rfl, N31q, e31⟩ := hQ31      -- what it returned, that it wrote nothing old, and the rest of your Q2
  have N31 := Fr.app N30 N31q
  obtain ⟨fs, hr, hrun, hended, hW, hsame⟩ := X31.leave (v := some (.int (1 : Int32))) (fun h => by rw [Bd.returns] at h; cases h)
  refine ⟨_, _, pre0 _ ?_, hrun, hended, _, _, rfl, ?_, ⟨_, rfl⟩, hW, hsame.mono (by decide) (by decide)⟩
  -- 4. STEPS
  · show Steps p.tables e below (s₁.setTop (mkF m 0 #[.val (.int p1), .unset, .unset, .unset, .unset, .unset] [])) _
    refine XS.bipush X0.here hx rfl (hb hby at_0) ?_
    show Steps p.tables e below (s₁.setTop (mkF m 2 #[.val (.int p1), .unset, .unset, .unset, .unset, .unset] [(.int (8 : Int32))])) _
    refine st2 _ ?_
    show Steps p.tables e below (T2.setTop (mkF m 5 #[.val (.int p1), .unset, .unset, .unset, .unset, .unset] [(.ref b2)])) _
    refine XS.dup X2.here hx rfl (hb hby at_5) rfl rfl ?_
    show Steps p.tables e below (T2.setTop (mkF m 6 #[.val (.int p1), .unset, .unset, .unset, .unset, .unset] [(.ref b2), (.ref b2)])) _
    refine XS.iconst X2.here hx rfl (hb hby at_6) ?_
    show Steps p.tables e below (T2.setTop (mkF m 7 #[.val (.int p1), .unset, .unset, .unset, .unset, .unset] [(.int (0 : Int32)), (.ref b2), (.ref b2)])) _
    refine st4 _ ?_
    show Steps p.tables e below (T4.setTop (mkF m 10 #[.val (.int p1), .unset, .unset, .unset, .unset, .unset] [(.ref w3), (.int (0 : Int32)), (.ref b2), (.ref b2)])) _
    refine st5 _ ?_
    show Steps p.tables e below (T5.setTop (mkF m 11 #[.val (.int p1), .unset, .unset, .unset, .unset, .unset] [(.ref b2)])) _
    refine XS.dup X5.here hx rfl (hb hby at_11) rfl rfl ?_
    show Steps p.tables e below (T5.setTop (mkF m 12 #[.val (.int p1), .unset, .unset, .unset, .unset, .unset] [(.ref b2), (.ref b2)])) _
    refine XS.iconst X5.here hx rfl (hb hby at_12) ?_
    show Steps p.tables e below (T5.setTop (mkF m 13 #[.val (.int p1), .unset, .unset, .unset, .unset, .unset] [(.int (1 : Int32)), (.ref b2), (.ref b2)])) _
    refine st7 _ ?_
    show Steps p.tables e below (T7.setTop (mkF m 16 #[.val (.int p1), .unset, .unset, .unset, .unset, .unset] [(.ref w6), (.int (1 : Int32)), (.ref b2), (.ref b2)])) _
    refine st8 _ ?_
    show Steps p.tables e below (T8.setTop (mkF m 17 #[.val (.int p1), .unset, .unset, .unset, .unset, .unset] [(.ref b2)])) _
    refine XS.dup X8.here hx rfl (hb hby at_17) rfl rfl ?_
    show Steps p.tables e below (T8.setTop (mkF m 18 #[.val (.int p1), .unset, .unset, .unset, .unset, .unset] [(.ref b2), (.ref b2)])) _
    refine XS.iconst X8.here hx rfl (hb hby at_18) ?_
    show Steps p.tables e below (T8.setTop (mkF m 19 #[.val (.int p1), .unset, .unset, .unset, .unset, .unset] [(.int (2 : Int32)), (.ref b2), (.ref b2)])) _
    refine st10 _ ?_
    show Steps p.tables e below (T10.setTop (mkF m 22 #[.val (.int p1), .unset, .unset, .unset, .unset, .unset] [(.ref w9), (.int (2 : Int32)), (.ref b2), (.ref b2)])) _
    refine st11 _ ?_
    show Steps p.tables e below (T11.setTop (mkF m 23 #[.val (.int p1), .unset, .unset, .unset, .unset, .unset] [(.ref b2)])) _
    refine XS.dup X11.here hx rfl (hb hby at_23) rfl rfl ?_
    show Steps p.tables e below (T11.setTop (mkF m 24 #[.val (.int p1), .unset, .unset, .unset, .unset, .unset] [(.ref b2), (.ref b2)])) _
    refine XS.iconst X11.here hx rfl (hb hby at_24) ?_
    show Steps p.tables e below (T11.setTop (mkF m 25 #[.val (.int p1), .unset, .unset, .unset, .unset, .unset] [(.int (3 : Int32)), (.ref b2), (.ref b2)])) _
    refine st13 _ ?_
    show Steps p.tables e below (T13.setTop (mkF m 28 #[.val (.int p1), .unset, .unset, .unset, .unset, .unset] [(.ref w12), (.int (3 : Int32)), (.ref b2), (.ref b2)])) _
    refine st14 _ ?_
    show Steps p.tables e below (T14.setTop (mkF m 29 #[.val (.int p1), .unset, .unset, .unset, .unset, .unset] [(.ref b2)])) _
    refine XS.dup X14.here hx rfl (hb hby at_29) rfl rfl ?_
    show Steps p.tables e below (T14.setTop (mkF m 30 #[.val (.int p1), .unset, .unset, .unset, .unset, .unset] [(.ref b2), (.ref b2)])) _
    refine XS.iconst X14.here hx rfl (hb hby at_30) ?_
    show Steps p.tables e below (T14.setTop (mkF m 31 #[.val (.int p1), .unset, .unset, .unset, .unset, .unset] [(.int (4 : Int32)), (.ref b2), (.ref b2)])) _
    refine st16 _ ?_
    show Steps p.tables e below (T16.setTop (mkF m 34 #[.val (.int p1), .unset, .unset, .unset, .unset, .unset] [(.ref w15), (.int (4 : Int32)), (.ref b2), (.ref b2)])) _
    refine st17 _ ?_
    show Steps p.tables e below (T17.setTop (mkF m 35 #[.val (.int p1), .unset, .unset, .unset, .unset, .unset] [(.ref b2)])) _
    refine XS.dup X17.here hx rfl (hb hby at_35) rfl rfl ?_
    show Steps p.tables e below (T17.setTop (mkF m 36 #[.val (.int p1), .unset, .unset, .unset, .unset, .unset] [(.ref b2), (.ref b2)])) _
    refine XS.iconst X17.here hx rfl (hb hby at_36) ?_
    show Steps p.tables e below (T17.setTop (mkF m 37 #[.val (.int p1), .unset, .unset, .unset, .unset, .unset] [(.int (5 : Int32)), (.ref b2), (.ref b2)])) _
    refine st19 _ ?_
    show Steps p.tables e below (T19.setTop (mkF m 40 #[.val (.int p1), .unset, .unset, .unset, .unset, .unset] [(.ref w18), (.int (5 : Int32)), (.ref b2), (.ref b2)])) _
    refine st20 _ ?_
    show Steps p.tables e below (T20.setTop (mkF m 41 #[.val (.int p1), .unset, .unset, .unset, .unset, .unset] [(.ref b2)])) _
    refine XS.dup X20.here hx rfl (hb hby at_41) rfl rfl ?_
    show Steps p.tables e below (T20.setTop (mkF m 42 #[.val (.int p1), .unset, .unset, .unset, .unset, .unset] [(.ref b2), (.ref b2)])) _
    refine XS.bipush X20.here hx rfl (hb hby at_42) ?_
    show Steps p.tables e below (T20.setTop (mkF m 44 #[.val (.int p1), .unset, .unset, .unset, .unset, .unset] [(.int (6 : Int32)), (.ref b2), (.ref b2)])) _
    refine st22 _ ?_
    show Steps p.tables e below (T22.setTop (mkF m 47 #[.val (.int p1), .unset, .unset, .unset, .unset, .unset] [(.ref w21), (.int (6 : Int32)), (.ref b2), (.ref b2)])) _
    refine st23 _ ?_
    show Steps p.tables e below (T23.setTop (mkF m 48 #[.val (.int p1), .unset, .unset, .unset, .unset, .unset] [(.ref b2)])) _
    refine XS.dup X23.here hx rfl (hb hby at_48) rfl rfl ?_
    show Steps p.tables e below (T23.setTop (mkF m 49 #[.val (.int p1), .unset, .unset, .unset, .unset, .unset] [(.ref b2), (.ref b2)])) _
    refine XS.bipush X23.here hx rfl (hb hby at_49) ?_
    show Steps p.tables e below (T23.setTop (mkF m 51 #[.val (.int p1), .unset, .unset, .unset, .unset, .unset] [(.int (7 : Int32)), (.ref b2), (.ref b2)])) _
    refine st25 _ ?_
    show Steps p.tables e below (T25.setTop (mkF m 54 #[.val (.int p1), .unset, .unset, .unset, .unset, .unset] [(.ref w24), (.int (7 : Int32)), (.ref b2), (.ref b2)])) _
    refine st26 _ ?_
    show Steps p.tables e below (T26.setTop (mkF m 55 #[.val (.int p1), .unset, .unset, .unset, .unset, .unset] [(.ref b2)])) _
    refine XS.astoreN X26.here hx rfl (hb hby at_55) rfl rfl (l' := #[.val (.int p1), .val (.ref b2), .unset, .unset, .unset, .unset]) rfl ?_
    show Steps p.tables e below (T26.setTop (mkF m 56 #[.val (.int p1), .val (.ref b2), .unset, .unset, .unset, .unset] [])) _
    refine XS.iloadN X26.here hx rfl (hb hby at_56) rfl ?_
    show Steps p.tables e below (T26.setTop (mkF m 57 #[.val (.int p1), .val (.ref b2), .unset, .unset, .unset, .unset] [(.int p1)])) _
    refine XS.bipush X26.here hx rfl (hb hby at_57) ?_
    show Steps p.tables e below (T26.setTop (mkF m 59 #[.val (.int p1), .val (.ref b2), .unset, .unset, .unset, .unset] [(.int (7 : Int32)), (.int p1)])) _
    refine XS.iand X26.here hx rfl (hb hby at_59) rfl ?_
    show Steps p.tables e below (T26.setTop (mkF m 60 #[.val (.int p1), .val (.ref b2), .unset, .unset, .unset, .unset] [(.int (p1 &&& (7 : Int32)))])) _
    refine XS.istoreN X26.here hx rfl (hb hby at_60) rfl (l' := #[.val (.int p1), .val (.ref b2), .val (.int (p1 &&& (7 : Int32))), .unset, .unset, .unset]) rfl ?_
    show Steps p.tables e below (T26.setTop (mkF m 61 #[.val (.int p1), .val (.ref b2), .val (.int (p1 &&& (7 : Int32))), .unset, .unset, .unset] [])) _
    refine XS.aloadN X26.here hx rfl (hb hby at_61) rfl rfl ?_
    show Steps p.tables e below (T26.setTop (mkF m 62 #[.val (.int p1), .val (.ref b2), .val (.int (p1 &&& (7 : Int32))), .unset, .unset, .unset] [(.ref b2)])) _
    refine XS.iloadN X26.here hx rfl (hb hby at_62) rfl ?_
    show Steps p.tables e below (T26.setTop (mkF m 63 #[.val (.int p1), .val (.ref b2), .val (.int (p1 &&& (7 : Int32))), .unset, .unset, .unset] [(.int (p1 &&& (7 : Int32))), (.ref b2)])) _
    refine X26.aaload hx (j := (p1 &&& (7 : Int32))) (v := (.ref w27)) (by rw [e26]; exact Ar_b2_63.1) (State.isArrayOf_alike hZ.alike Ar_b2_63.2.1) rfl Ar_b2_63.2.2 hin63 hat63 (g := (mkF m 63 #[.val (.int p1), .val (.ref b2), .val (.int (p1 &&& (7 : Int32))), .unset, .unset, .unset] [(.int (p1 &&& (7 : Int32))), (.ref b2)])) rfl rfl (hb hby at_63) _ ?_
    show Steps p.tables e below (T26.setTop (mkF m 64 #[.val (.int p1), .val (.ref b2), .val (.int (p1 &&& (7 : Int32))), .unset, .unset, .unset] [(.ref w27)])) _
    refine XS.astoreN X26.here hx rfl (hb hby at_64) rfl rfl (l' := #[.val (.int p1), .val (.ref b2), .val (.int (p1 &&& (7 : Int32))), .val (.ref w27), .unset, .unset]) rfl ?_
    show Steps p.tables e below (T26.setTop (mkF m 65 #[.val (.int p1), .val (.ref b2), .val (.int (p1 &&& (7 : Int32))), .val (.ref w27), .unset, .unset] [])) _
    refine XS.iconst X26.here hx rfl (hb hby at_65) ?_
    show Steps p.tables e below (T26.setTop (mkF m 66 #[.val (.int p1), .val (.ref b2), .val (.int (p1 &&& (7 : Int32))), .val (.ref w27), .unset, .unset] [(.int (0 : Int32))])) _
    refine XS.istore X26.here hx rfl (hb hby at_66) rfl (l' := #[.val (.int p1), .val (.ref b2), .val (.int (p1 &&& (7 : Int32))), .val (.ref w27), .val (.int (0 : Int32)), .unset]) rfl ?_
    show Steps p.tables e below (T26.setTop (mkF m 68 #[.val (.int p1), .val (.ref b2), .val (.int (p1 &&& (7 : Int32))), .val (.ref w27), .val (.int (0 : Int32)), .unset] [])) _
    refine XS.aloadN X26.here hx rfl (hb hby at_68) rfl rfl ?_
    show Steps p.tables e below (T26.setTop (mkF m 69 #[.val (.int p1), .val (.ref b2), .val (.int (p1 &&& (7 : Int32))), .val (.ref w27), .val (.int (0 : Int32)), .unset] [(.ref w27)])) _
    refine st28 _ ?_
    show Steps p.tables e below (T28.setTop (mkF m 72 #[.val (.int p1), .val (.ref b2), .val (.int (p1 &&& (7 : Int32))), .val (.ref w27), .val (.int (0 : Int32)), .unset] [(.ref w9), (.ref w27)])) _
    refine Jvm.RoadKit.acmp (g := (mkF m 72 #[.val (.int p1), .val (.ref b2), .val (.int (p1 &&& (7 : Int32))), .val (.ref w27), .val (.int (0 : Int32)), .unset] [(.ref w9), (.ref w27)])) X28 hx rfl rfl rfl (pc0 := 72) (pc' := 78) (same := false) rfl (hb hby at_72) rfl (decide_eq_false fun q => ha72 (Value.ref.inj q)) (by decide) (by decide) ?_
    show Steps p.tables e below (T28.setTop (mkF m 78 #[.val (.int p1), .val (.ref b2), .val (.int (p1 &&& (7 : Int32))), .val (.ref w27), .val (.int (0 : Int32)), .unset] [])) _
    refine XS.aloadN X28.here hx rfl (hb hby at_78) rfl rfl ?_
    show Steps p.tables e below (T28.setTop (mkF m 79 #[.val (.int p1), .val (.ref b2), .val (.int (p1 &&& (7 : Int32))), .val (.ref w27), .val (.int (0 : Int32)), .unset] [(.ref w27)])) _
    refine st29 _ ?_
    show Steps p.tables e below (T29.setTop (mkF m 82 #[.val (.int p1), .val (.ref b2), .val (.int (p1 &&& (7 : Int32))), .val (.ref w27), .val (.int (0 : Int32)), .unset] [(.ref w12), (.ref w27)])) _
    refine Jvm.RoadKit.acmp (g := (mkF m 82 #[.val (.int p1), .val (.ref b2), .val (.int (p1 &&& (7 : Int32))), .val (.ref w27), .val (.int (0 : Int32)), .unset] [(.ref w12), (.ref w27)])) X29 hx rfl rfl rfl (pc0 := 82) (pc' := 85) (same := true) rfl (hb hby at_82) rfl (decide_eq_true (congrArg Value.ref ha82)) (by decide) (by decide) ?_
    show Steps p.tables e below (T29.setTop (mkF m 85 #[.val (.int p1), .val (.ref b2), .val (.int (p1 &&& (7 : Int32))), .val (.ref w27), .val (.int (0 : Int32)), .unset] [])) _
    refine XS.iconst X29.here hx rfl (hb hby at_85) ?_
    show Steps p.tables e below (T29.setTop (mkF m 86 #[.val (.int p1), .val (.ref b2), .val (.int (p1 &&& (7 : Int32))), .val (.ref w27), .val (.int (0 : Int32)), .unset] [(.int (1 : Int32))])) _
    refine XS.istore X29.here hx rfl (hb hby at_86) rfl (l' := #[.val (.int p1), .val (.ref b2), .val (.int (p1 &&& (7 : Int32))), .val (.ref w27), .val (.int (1 : Int32)), .unset]) rfl ?_
    show Steps p.tables e below (T29.setTop (mkF m 88 #[.val (.int p1), .val (.ref b2), .val (.int (p1 &&& (7 : Int32))), .val (.ref w27), .val (.int (1 : Int32)), .unset] [])) _
    refine XS.aloadN X29.here hx rfl (hb hby at_88) rfl rfl ?_
    show Steps p.tables e below (T29.setTop (mkF m 89 #[.val (.int p1), .val (.ref b2), .val (.int (p1 &&& (7 : Int32))), .val (.ref w27), .val (.int (1 : Int32)), .unset] [(.ref w27)])) _
    refine st30.trans ?_
    show Steps p.tables e below (T30.setTop (mkF m 92 #[.val (.int p1), .val (.ref b2), .val (.int (p1 &&& (7 : Int32))), .val (.ref w27), .val (.int (1 : Int32)), .unset] [(.int r30)])) _
    refine XS.istore X30.here hx rfl (hb hby at_92) rfl (l' := #[.val (.int p1), .val (.ref b2), .val (.int (p1 &&& (7 : Int32))), .val (.ref w27), .val (.int (1 : Int32)), .val (.int r30)]) rfl ?_
    show Steps p.tables e below (T30.setTop (mkF m 94 #[.val (.int p1), .val (.ref b2), .val (.int (p1 &&& (7 : Int32))), .val (.ref w27), .val (.int (1 : Int32)), .val (.int r30)] [])) _
    refine XS.iload X30.here hx rfl (hb hby at_94) rfl ?_
    show Steps p.tables e below (T30.setTop (mkF m 96 #[.val (.int p1), .val (.ref b2), .val (.int (p1 &&& (7 : Int32))), .val (.ref w27), .val (.int (1 : Int32)), .val (.int r30)] [(.int r30)])) _
    refine XS.iload X30.here hx rfl (hb hby at_96) rfl ?_
    show Steps p.tables e below (T30.setTop (mkF m 98 #[.val (.int p1), .val (.ref b2), .val (.int (p1 &&& (7 : Int32))), .val (.ref w27), .val (.int (1 : Int32)), .val (.int r30)] [(.int (1 : Int32)), (.int r30)])) _
    refine XS.icmpYes X30.here hx rfl (pc0 := 98) (pc' := 103) rfl (hb hby at_98) rfl (teq hx1).1 (by decide) (by decide) ?_
    show Steps p.tables e below (T30.setTop (mkF m 103 #[.val (.int p1), .val (.ref b2), .val (.int (p1 &&& (7 : Int32))), .val (.ref w27), .val (.int (1 : Int32)), .val (.int r30)] [])) _
    refine XS.iload X30.here hx rfl (hb hby at_103) rfl ?_
    show Steps p.tables e below (T30.setTop (mkF m 105 #[.val (.int p1), .val (.ref b2), .val (.int (p1 &&& (7 : Int32))), .val (.ref w27), .val (.int (1 : Int32)), .val (.int r30)] [(.int r30)])) _
    refine XS.ifNo X30.here hx rfl (hb hby at_105) rfl ((if0 _ _).trans (feq hx2).1) ?_
    show Steps p.tables e below (T30.setTop (mkF m 108 #[.val (.int p1), .val (.ref b2), .val (.int (p1 &&& (7 : Int32))), .val (.ref w27), .val (.int (1 : Int32)), .val (.int r30)] [])) _
    refine XS.aloadN X30.here hx rfl (hb hby at_108) rfl rfl ?_
    show Steps p.tables e below (T30.setTop (mkF m 109 #[.val (.int p1), .val (.ref b2), .val (.int (p1 &&& (7 : Int32))), .val (.ref w27), .val (.int (1 : Int32)), .val (.int r30)] [(.ref w27)])) _
    refine st31.trans ?_
    show Steps p.tables e below (T31.setTop (mkF m 112 #[.val (.int p1), .val (.ref b2), .val (.int (p1 &&& (7 : Int32))), .val (.ref w27), .val (.int (1 : Int32)), .val (.int r30)] [(.int r31)])) _
    refine XS.ifYes X31.here hx rfl (pc0 := 112) (pc' := 117) rfl (hb hby at_112) rfl ((if0 _ _).trans (feq hx3).2) (by decide) (by decide) ?_
    show Steps p.tables e below (T31.setTop (mkF m 117 #[.val (.int p1), .val (.ref b2), .val (.int (p1 &&& (7 : Int32))), .val (.ref w27), .val (.int (1 : Int32)), .val (.int r30)] [])) _
    refine XS.iconst X31.here hx rfl (hb hby at_117) ?_
    show Steps p.tables e below (T31.setTop (mkF m 118 #[.val (.int p1), .val (.ref b2), .val (.int (p1 &&& (7 : Int32))), .val (.ref w27), .val (.int (1 : Int32)), .val (.int r30)] [(.int (1 : Int32))])) _
    exact retN X31 hx (t := .boolean) Bd.returns (by simp) (hb hby at_118) hr
  · show Q0_tftft Z p1 w3 w6 w9 w12 w15 w18 w21 w24 w27 h0 n0 _ T31.heap _
    exact ⟨rfl, N31⟩
set_option maxRecDepth 65536 in
set_option maxHeartbeats 40000000 in
theorem comes_1 {Post : Tables → Env → Array Value → State → Outcome → State → Prop} (hpost : ∀ tb e args s v u, (limb_1_1.after args s (.returned v) u = true ∧ limb_1_2.after args s (.returned v) u = true ∧ True) → FrameEnd s (.returned v) u (Jvm.fieldLocs frame_1_writes args s ++ Jvm.arrayLocs frame_1_arrays args s ++ Jvm.staticLocs frame_1_statics s) 16 128 → Post tb e args s (.returned v) u) :
    ArmFor flags0 classFile x code maxLocals ret World_1 tables_1 room_1 Calls_1 rest_1 Pre_1 Post := by
  intro l hfl _ _ p e ha hc hk s m args below hf hA hF happ hP
  obtain ⟨hcalls, hrest, hpre⟩ := hP
  obtain ⟨-, -, -, hnamed, -, -, -, hat⟩ := (Spec.applies_iff hf).mp happ
  obtain ⟨hg, hn⟩ := and_e (Cond.before_iff.mp (show (Jvm.Cond.and given_1 narrow_1).before args s = true from hpre))
  obtain ⟨g0, hg⟩ := and_e hg
  have g1 := hg
  obtain ⟨w0, rfl⟩ : ∃ w0 : Value, args = #[w0] := by
    have hs : args.size = 1 := by simpa [Cond.value, given_1] using g0
    obtain ⟨L⟩ := args
    match L, hs with
    | [w0], _ => exact ⟨w0, rfl⟩
  obtain ⟨i0, ei0⟩ := is_v g1
  obtain rfl : w0 = (.int i0) := Option.some.inj ei0
  have hw := fun d (hd : d ∈ tables_1) => atoms_spec (ws := Jvm.Cond.code x code maxLocals ret :: tables_1) hat d (List.mem_cons_of_mem _ hd)
  obtain ⟨c0, hn⟩ := and_e hn
  obtain ⟨c1, hn⟩ := and_e hn
  obtain ⟨c2, hn⟩ := and_e hn
  obtain ⟨c3, hn⟩ := and_e hn
  obtain ⟨c4, hn⟩ := and_e hn
  obtain ⟨c5, hn⟩ := and_e hn
  obtain ⟨c6, hn⟩ := and_e hn
  obtain ⟨c7, hn⟩ := and_e hn
  obtain ⟨c8, hn⟩ := and_e hn
  obtain ⟨c9, hn⟩ := and_e hn
  obtain ⟨c10, hn⟩ := and_e hn
  obtain ⟨c11, hn⟩ := and_e hn
  obtain ⟨c12, hn⟩ := and_e hn
  obtain ⟨c13, hn⟩ := and_e hn
  obtain ⟨c14, hn⟩ := and_e hn
  have c15 := hn
  obtain ⟨w_MALLOC, ev_MALLOC⟩ := exa_v c0
  have E_MALLOC := Exa.start ev_MALLOC c0
  have S_MALLOC := Sta.start ev_MALLOC (Or.inr ⟨(hw _ (List.mem_of_getElem? (i := 3) rfl)), (hw _ (List.mem_of_getElem? (i := 4) rfl))⟩)
  obtain ⟨w_CALLOC, ev_CALLOC⟩ := exa_v c1
  have E_CALLOC := Exa.start ev_CALLOC c1
  have S_CALLOC := Sta.start ev_CALLOC (Or.inr ⟨(hw _ (List.mem_of_getElem? (i := 3) rfl)), (hw _ (List.mem_of_getElem? (i := 7) rfl))⟩)
  obtain ⟨w_FREE, ev_FREE⟩ := exa_v c2
  have E_FREE := Exa.start ev_FREE c2
  have S_FREE := Sta.start ev_FREE (Or.inr ⟨(hw _ (List.mem_of_getElem? (i := 3) rfl)), (hw _ (List.mem_of_getElem? (i := 9) rfl))⟩)
  obtain ⟨w_REALLOC, ev_REALLOC⟩ := exa_v c3
  have E_REALLOC := Exa.start ev_REALLOC c3
  have S_REALLOC := Sta.start ev_REALLOC (Or.inr ⟨(hw _ (List.mem_of_getElem? (i := 3) rfl)), (hw _ (List.mem_of_getElem? (i := 11) rfl))⟩)
  obtain ⟨w_ABORT, ev_ABORT⟩ := exa_v c4
  have E_ABORT := Exa.start ev_ABORT c4
  have S_ABORT := Sta.start ev_ABORT (Or.inr ⟨(hw _ (List.mem_of_getElem? (i := 3) rfl)), (hw _ (List.mem_of_getElem? (i := 13) rfl))⟩)
  obtain ⟨w_EXIT, ev_EXIT⟩ := exa_v c5
  have E_EXIT := Exa.start ev_EXIT c5
  have S_EXIT := Sta.start ev_EXIT (Or.inr ⟨(hw _ (List.mem_of_getElem? (i := 3) rfl)), (hw _ (List.mem_of_getElem? (i := 15) rfl))⟩)
  obtain ⟨w_IMMEDIATE_EXIT, ev_IMMEDIATE_EXIT⟩ := exa_v c6
  have E_IMMEDIATE_EXIT := Exa.start ev_IMMEDIATE_EXIT c6
  have S_IMMEDIATE_EXIT := Sta.start ev_IMMEDIATE_EXIT (Or.inr ⟨(hw _ (List.mem_of_getElem? (i := 3) rfl)), (hw _ (List.mem_of_getElem? (i := 17) rfl))⟩)
  obtain ⟨w_QUICK_EXIT, ev_QUICK_EXIT⟩ := exa_v c7
  have E_QUICK_EXIT := Exa.start ev_QUICK_EXIT c7
  have S_QUICK_EXIT := Sta.start ev_QUICK_EXIT (Or.inr ⟨(hw _ (List.mem_of_getElem? (i := 3) rfl)), (hw _ (List.mem_of_getElem? (i := 19) rfl))⟩)
  have F_MALLOC_ordinal := own_fldI ev_MALLOC c8
  have F_FREE_ordinal := own_fldI ev_FREE c9
  have F_REALLOC_ordinal := own_fldI ev_REALLOC c10
  have F_ABORT_ordinal := own_fldI ev_ABORT c11
  have F_EXIT_ordinal := own_fldI ev_EXIT c12
  have F_IMMEDIATE_EXIT_ordinal := own_fldI ev_IMMEDIATE_EXIT c13
  have F_QUICK_EXIT_ordinal := own_fldI ev_QUICK_EXIT c14
  have F_CALLOC_ordinal := own_fldI ev_CALLOC c15
  have key : MetFree l x (head1 (Jvm.Cond.code x code maxLocals ret :: tables_1) room_1) (fun a U => a = #[(.int i0)] ∧ s.Warmed39 U.vm ∧ U.heap = s.heap) (fun _ _ _ _ _ => True) (fun _ U o U' => ∃ v L, o = .returned v ∧ (v = some (.int (1 : Int32)) ∧ Fr s.heap.size L) ∧ FrameEnd U o U' L room_1.cells room_1.slots) := by
    rcases own_k i0 with hv | hv | hv | hv | hv | hv | hv | hv
    · exact rm0_tttt l s _ hw tables_1 i0 w_MALLOC w_CALLOC w_FREE w_REALLOC w_ABORT w_EXIT w_IMMEDIATE_EXIT w_QUICK_EXIT w_MALLOC (0 : Int32) s.heap s.heap.size (Nat.le_refl _) S_MALLOC S_CALLOC S_FREE S_REALLOC S_ABORT S_EXIT S_IMMEDIATE_EXIT S_QUICK_EXIT E_MALLOC (Fld.ne F_MALLOC_ordinal F_FREE_ordinal (by decide)) (Fld.ne F_MALLOC_ordinal F_REALLOC_ordinal (by decide)) E_MALLOC E_CALLOC E_FREE E_REALLOC E_ABORT E_EXIT E_IMMEDIATE_EXIT E_QUICK_EXIT (by rw [hv] <;> decide) (by rw [hv] <;> rfl) (Or.inr (Or.inr ⟨w_FREE, w_REALLOC, S_FREE, S_REALLOC, (Fld.ne F_MALLOC_ordinal F_FREE_ordinal (by decide)), (Fld.ne F_MALLOC_ordinal F_REALLOC_ordinal (by decide)), rfl⟩)) (by decide) (by decide)
    · exact rm0_tttt l s _ hw tables_1 i0 w_MALLOC w_CALLOC w_FREE w_REALLOC w_ABORT w_EXIT w_IMMEDIATE_EXIT w_QUICK_EXIT w_CALLOC (0 : Int32) s.heap s.heap.size (Nat.le_refl _) S_MALLOC S_CALLOC S_FREE S_REALLOC S_ABORT S_EXIT S_IMMEDIATE_EXIT S_QUICK_EXIT E_CALLOC (Fld.ne F_CALLOC_ordinal F_FREE_ordinal (by decide)) (Fld.ne F_CALLOC_ordinal F_REALLOC_ordinal (by decide)) E_MALLOC E_CALLOC E_FREE E_REALLOC E_ABORT E_EXIT E_IMMEDIATE_EXIT E_QUICK_EXIT (by rw [hv] <;> decide) (by rw [hv] <;> rfl) (Or.inr (Or.inr ⟨w_FREE, w_REALLOC, S_FREE, S_REALLOC, (Fld.ne F_CALLOC_ordinal F_FREE_ordinal (by decide)), (Fld.ne F_CALLOC_ordinal F_REALLOC_ordinal (by decide)), rfl⟩)) (by decide) (by decide)
    · exact rm0_fttft l s _ hw tables_1 i0 w_MALLOC w_CALLOC w_FREE w_REALLOC w_ABORT w_EXIT w_IMMEDIATE_EXIT w_QUICK_EXIT w_FREE (1 : Int32) (1 : Int32) s.heap s.heap.size (Nat.le_refl _) S_MALLOC S_CALLOC S_FREE S_REALLOC S_ABORT S_EXIT S_IMMEDIATE_EXIT S_QUICK_EXIT E_FREE rfl (Fld.ne F_FREE_ordinal F_REALLOC_ordinal (by decide)) E_MALLOC E_CALLOC E_FREE E_REALLOC E_ABORT E_EXIT E_IMMEDIATE_EXIT E_QUICK_EXIT (by rw [hv] <;> decide) (by rw [hv] <;> rfl) (Or.inl ⟨w_FREE, S_FREE, rfl, rfl⟩) (Or.inr (Or.inr (Or.inr (Or.inl ⟨w_ABORT, w_EXIT, w_IMMEDIATE_EXIT, w_QUICK_EXIT, S_ABORT, S_EXIT, S_IMMEDIATE_EXIT, S_QUICK_EXIT, (Fld.ne F_FREE_ordinal F_ABORT_ordinal (by decide)), (Fld.ne F_FREE_ordinal F_EXIT_ordinal (by decide)), (Fld.ne F_FREE_ordinal F_IMMEDIATE_EXIT_ordinal (by decide)), (Fld.ne F_FREE_ordinal F_QUICK_EXIT_ordinal (by decide)), rfl⟩)))) (by decide) (by decide) (by decide)
    · exact rm0_tftft l s _ hw tables_1 i0 w_MALLOC w_CALLOC w_FREE w_REALLOC w_ABORT w_EXIT w_IMMEDIATE_EXIT w_QUICK_EXIT w_REALLOC (1 : Int32) (1 : Int32) s.heap s.heap.size (Nat.le_refl _) S_MALLOC S_CALLOC S_FREE S_REALLOC S_ABORT S_EXIT S_IMMEDIATE_EXIT S_QUICK_EXIT E_REALLOC (Fld.ne F_REALLOC_ordinal F_FREE_ordinal (by decide)) rfl E_MALLOC E_CALLOC E_FREE E_REALLOC E_ABORT E_EXIT E_IMMEDIATE_EXIT E_QUICK_EXIT (by rw [hv] <;> decide) (by rw [hv] <;> rfl) (Or.inr (Or.inl ⟨w_FREE, w_REALLOC, S_FREE, S_REALLOC, (Fld.ne F_REALLOC_ordinal F_FREE_ordinal (by decide)), rfl, rfl⟩)) (Or.inr (Or.inr (Or.inr (Or.inl ⟨w_ABORT, w_EXIT, w_IMMEDIATE_EXIT, w_QUICK_EXIT, S_ABORT, S_EXIT, S_IMMEDIATE_EXIT, S_QUICK_EXIT, (Fld.ne F_REALLOC_ordinal F_ABORT_ordinal (by decide)), (Fld.ne F_REALLOC_ordinal F_EXIT_ordinal (by decide)), (Fld.ne F_REALLOC_ordinal F_IMMEDIATE_EXIT_ordinal (by decide)), (Fld.ne F_REALLOC_ordinal F_QUICK_EXIT_ordinal (by decide)), rfl⟩)))) (by decide) (by decide) (by decide)
    · exact rm0_tttt l s _ hw tables_1 i0 w_MALLOC w_CALLOC w_FREE w_REALLOC w_ABORT w_EXIT w_IMMEDIATE_EXIT w_QUICK_EXIT w_ABORT (0 : Int32) s.heap s.heap.size (Nat.le_refl _) S_MALLOC S_CALLOC S_FREE S_REALLOC S_ABORT S_EXIT S_IMMEDIATE_EXIT S_QUICK_EXIT E_ABORT (Fld.ne F_ABORT_ordinal F_FREE_ordinal (by decide)) (Fld.ne F_ABORT_ordinal F_REALLOC_ordinal (by decide)) E_MALLOC E_CALLOC E_FREE E_REALLOC E_ABORT E_EXIT E_IMMEDIATE_EXIT E_QUICK_EXIT (by rw [hv] <;> decide) (by rw [hv] <;> rfl) (Or.inr (Or.inr ⟨w_FREE, w_REALLOC, S_FREE, S_REALLOC, (Fld.ne F_ABORT_ordinal F_FREE_ordinal (by decide)), (Fld.ne F_ABORT_ordinal F_REALLOC_ordinal (by decide)), rfl⟩)) (by decide) (by decide)
    · exact rm0_tttt l s _ hw tables_1 i0 w_MALLOC w_CALLOC w_FREE w_REALLOC w_ABORT w_EXIT w_IMMEDIATE_EXIT w_QUICK_EXIT w_EXIT (0 : Int32) s.heap s.heap.size (Nat.le_refl _) S_MALLOC S_CALLOC S_FREE S_REALLOC S_ABORT S_EXIT S_IMMEDIATE_EXIT S_QUICK_EXIT E_EXIT (Fld.ne F_EXIT_ordinal F_FREE_ordinal (by decide)) (Fld.ne F_EXIT_ordinal F_REALLOC_ordinal (by decide)) E_MALLOC E_CALLOC E_FREE E_REALLOC E_ABORT E_EXIT E_IMMEDIATE_EXIT E_QUICK_EXIT (by rw [hv] <;> decide) (by rw [hv] <;> rfl) (Or.inr (Or.inr ⟨w_FREE, w_REALLOC, S_FREE, S_REALLOC, (Fld.ne F_EXIT_ordinal F_FREE_ordinal (by decide)), (Fld.ne F_EXIT_ordinal F_REALLOC_ordinal (by decide)), rfl⟩)) (by decide) (by decide)
    · exact rm0_tttt l s _ hw tables_1 i0 w_MALLOC w_CALLOC w_FREE w_REALLOC w_ABORT w_EXIT w_IMMEDIATE_EXIT w_QUICK_EXIT w_IMMEDIATE_EXIT (0 : Int32) s.heap s.heap.size (Nat.le_refl _) S_MALLOC S_CALLOC S_FREE S_REALLOC S_ABORT S_EXIT S_IMMEDIATE_EXIT S_QUICK_EXIT E_IMMEDIATE_EXIT (Fld.ne F_IMMEDIATE_EXIT_ordinal F_FREE_ordinal (by decide)) (Fld.ne F_IMMEDIATE_EXIT_ordinal F_REALLOC_ordinal (by decide)) E_MALLOC E_CALLOC E_FREE E_REALLOC E_ABORT E_EXIT E_IMMEDIATE_EXIT E_QUICK_EXIT (by rw [hv] <;> decide) (by rw [hv] <;> rfl) (Or.inr (Or.inr ⟨w_FREE, w_REALLOC, S_FREE, S_REALLOC, (Fld.ne F_IMMEDIATE_EXIT_ordinal F_FREE_ordinal (by decide)), (Fld.ne F_IMMEDIATE_EXIT_ordinal F_REALLOC_ordinal (by decide)), rfl⟩)) (by decide) (by decide)
    · exact rm0_tttt l s _ hw tables_1 i0 w_MALLOC w_CALLOC w_FREE w_REALLOC w_ABORT w_EXIT w_IMMEDIATE_EXIT w_QUICK_EXIT w_QUICK_EXIT (0 : Int32) s.heap s.heap.size (Nat.le_refl _) S_MALLOC S_CALLOC S_FREE S_REALLOC S_ABORT S_EXIT S_IMMEDIATE_EXIT S_QUICK_EXIT E_QUICK_EXIT (Fld.ne F_QUICK_EXIT_ordinal F_FREE_ordinal (by decide)) (Fld.ne F_QUICK_EXIT_ordinal F_REALLOC_ordinal (by decide)) E_MALLOC E_CALLOC E_FREE E_REALLOC E_ABORT E_EXIT E_IMMEDIATE_EXIT E_QUICK_EXIT (by rw [hv] <;> decide) (by rw [hv] <;> rfl) (Or.inr (Or.inr ⟨w_FREE, w_REALLOC, S_FREE, S_REALLOC, (Fld.ne F_QUICK_EXIT_ordinal F_FREE_ordinal (by decide)), (Fld.ne F_QUICK_EXIT_ordinal F_REALLOC_ordinal (by decide)), rfl⟩)) (by decide) (by decide)
  obtain ⟨n, o, h1, h2, h3, _, L, rfl, ⟨rfl, N⟩, hq⟩ := key p e ha hc hk s m _ below hf ((Spec.applies_iff_loose hf).mp happ).1 ⟨rfl, State.Warmed39.refl s, rfl⟩ trivial
  refine ⟨n, _, h1, h2, h3, hpost _ _ _ _ _ _ ⟨Cond.after_iff.mpr rfl, Cond.after_iff.mpr (eq_i res_at (Term.int_eval (1)) rfl), trivial⟩ ⟨hq.1, hq.2.1, (hq.2.2.sift fun y hy => Or.inr (N y hy)).mono (by decide) (by decide)⟩⟩
theorem main_1_1 : Claimed_1_1 := comes_1 fun _ _ _ _ _ _ h hF => ⟨h.1, hF⟩
theorem main_1_2 : Claimed_1_2 := comes_1 fun _ _ _ _ _ _ h hF => ⟨h.2.1, hF⟩
end Jvm.Pilot.@@N@@
namespace Jvm.Pilot.@@N@@
open Jvm Jvm.ClassFile Sem Op Lib Jvm.Free Jvm.Stand Jvm.Pilot.@@N@@.Jvm.D
/-! MADE BY PROGRAM (witnessworld.py) out of the Statement's table words and the real class files: 13 classes; the members and pool entries that the words name. The judged class is class 1, her method 1. -/
namespace start1
open Jvm.ClassFile
def u (s : String) : CpInfo := .utf8 (stringToUtf16 s)
/-- a pool by its gaps: so many unusable entries, then the entry; so many at the end -/
def gap : Nat → List CpInfo → List CpInfo
  | 0, r => r
  | n + 1, r => .unusable :: gap n r
def poolList (es : List (Nat × CpInfo)) (last : Nat) : List CpInfo := es.foldr (fun e r => gap e.1 (e.2 :: r)) (gap last [])
def pool (es : List (Nat × CpInfo)) (last : Nat) : Array CpInfo := ⟨poolList es last⟩
def fileOf (pool : Array CpInfo) (this : Nat) (attrs : Array Attribute := #[]) (ms : Array MethodInfo := #[]) (fl : Nat := 33) (sup : Nat := 0) (ifs : Array Nat := #[]) (fds : Array FieldInfo := #[]) : ClassFile where
  minorVersion := 0
  majorVersion := 65
  constantPool := pool
  accessFlags := fl
  thisClass := this
  superClass := sup
  interfaces := ifs
  fields := fds
  methods := ms
  attributes := attrs
def plain (name : String) (sup : Option ClassId) : Class where
  name := name
  kind := .ordinary
  loader := none
  accessFlags := 33
  super := sup
  interfaces := #[]
  cf := none
  fields := #[]
  methods := #[]
  instanceTypes := #[]
  staticTypes := #[]
  resolved := #[]
  callSites := []
  init := .initialized
  statics := none
  mirror := none

def pool0 : Array CpInfo := pool [(5, u "<init>"), (0, u "()V"), (1, .class_ 10), (1, u "java/lang/Object")] 113

def k0m0 : Method := { name := "<init>", desc := "()V", sig := { parameters := [], returnType := none }, accessFlags := 1, code := none }
/-- java/lang/Object -/
def k0 : Class := { plain "java/lang/Object" none with
  accessFlags := 33
  interfaces := #[]
  cf := some (fileOf pool0 8 #[] #[{ accessFlags := 1, nameIndex := 5, descriptorIndex := 6, attributes := #[] }] 33 0 #[] #[])
  fields := #[]
  methods := #[k0m0]
  instanceTypes := #[]
  staticTypes := #[]
  resolved := Array.replicate 124 none
  statics := none }

def pool1 : Array CpInfo := pool [(2, .class_ 4), (1, u "java/lang/Object"), (0, u "<init>"), (0, u "()V"), (0, .class_ 8), (0, u "com/example/warning_recheck/warningrecheck/engine/LibraryFunction"), (0, .fieldref 7 10), (0, .nameAndType 11 12), (0, u "MALLOC"), (0, u "Lcom/example/warning_recheck/warningrecheck/engine/LibraryFunction;"), (0, .fieldref 7 14), (0, .nameAndType 15 12), (0, u "CALLOC"), (0, .fieldref 7 17), (0, .nameAndType 18 12), (0, u "FREE"), (0, .fieldref 7 20), (0, .nameAndType 21 12), (0, u "REALLOC"), (0, .fieldref 7 23), (0, .nameAndType 24 12), (0, u "ABORT"), (0, .fieldref 7 26), (0, .nameAndType 27 12), (0, u "EXIT"), (0, .fieldref 7 29), (0, .nameAndType 30 12), (0, u "IMMEDIATE_EXIT"), (0, .fieldref 7 32), (0, .nameAndType 33 12), (0, u "QUICK_EXIT"), (0, .methodref 7 35), (0, .nameAndType 36 37), (0, u "frees"), (0, u "()Z"), (0, .methodref 7 39), (0, .nameAndType 40 37), (0, u "returns"), (0, .class_ 42), (0, u "com/example/warning_recheck/warningrecheck/engine/LibraryFunctionFreesPinLaw"), (2, u "law"), (0, u "(I)Z")] 5

def k1m0 : Method := { name := "<init>", desc := "()V", sig := { parameters := [], returnType := none }, accessFlags := 1, code := none }
def k1c1 : Code := { maxStack := 4, maxLocals := 6, code := code, exceptionTable := #[], attributes := #[] }
def k1m1 : Method := { name := "law", desc := "(I)Z", sig := { parameters := [.int], returnType := some .boolean }, accessFlags := 9, code := some k1c1 }
/-- com/example/warning_recheck/warningrecheck/engine/LibraryFunctionFreesPinLaw -/
def k1 : Class := { plain "com/example/warning_recheck/warningrecheck/engine/LibraryFunctionFreesPinLaw" (some 0) with
  accessFlags := 49
  interfaces := #[]
  cf := some (fileOf pool1 41 #[] #[{ accessFlags := 1, nameIndex := 5, descriptorIndex := 6, attributes := #[] }, { accessFlags := 9, nameIndex := 45, descriptorIndex := 46, attributes := #[] }] 49 2 #[] #[])
  fields := #[]
  methods := #[k1m0, k1m1]
  instanceTypes := #[]
  staticTypes := #[]
  resolved := Array.replicate 52 none
  statics := none }

def pool2 : Array CpInfo := pool [(1, .class_ 2), (0, u "java/lang/constant/Constable"), (0, .class_ 4), (0, u "java/lang/Object")] 6

/-- java/lang/constant/Constable -/
def k2 : Class := { plain "java/lang/constant/Constable" (some 0) with
  accessFlags := 1537
  interfaces := #[]
  cf := some (fileOf pool2 1 #[] #[] 1537 3 #[] #[])
  fields := #[]
  methods := #[]
  instanceTypes := #[]
  staticTypes := #[]
  resolved := Array.replicate 11 none
  statics := none }

def pool3 : Array CpInfo := pool [(1, .class_ 2), (0, u "java/lang/Comparable"), (0, .class_ 4), (0, u "java/lang/Object")] 7

/-- java/lang/Comparable -/
def k3 : Class := { plain "java/lang/Comparable" (some 0) with
  accessFlags := 1537
  interfaces := #[]
  cf := some (fileOf pool3 1 #[] #[] 1537 3 #[] #[])
  fields := #[]
  methods := #[]
  instanceTypes := #[]
  staticTypes := #[]
  resolved := Array.replicate 12 none
  statics := none }

def pool4 : Array CpInfo := pool [(1, .class_ 2), (0, u "java/io/Serializable"), (0, .class_ 4), (0, u "java/lang/Object")] 2

/-- java/io/Serializable -/
def k4 : Class := { plain "java/io/Serializable" (some 0) with
  accessFlags := 1537
  interfaces := #[]
  cf := some (fileOf pool4 1 #[] #[] 1537 3 #[] #[])
  fields := #[]
  methods := #[]
  instanceTypes := #[]
  staticTypes := #[]
  resolved := Array.replicate 7 none
  statics := none }

def pool5 : Array CpInfo := pool [(2, .class_ 4), (1, u "java/lang/Enum"), (0, u "name"), (0, u "Ljava/lang/String;"), (2, u "ordinal"), (0, u "I"), (1, .class_ 14), (1, u "java/lang/Object"), (4, u "hash"), (86, .class_ 108), (1, u "java/lang/Enum$EnumDesc"), (2, .class_ 112), (0, u "java/lang/constant/Constable"), (0, .class_ 114), (0, u "java/lang/Comparable"), (0, .class_ 116), (0, u "java/io/Serializable")] 87

/-- java/lang/Enum -/
def k5 : Class := { plain "java/lang/Enum" (some 0) with
  accessFlags := 1057
  interfaces := #[2, 3, 4]
  cf := some (fileOf pool5 2 #[.nestMembers #[106]] #[] 1057 12 #[111, 113, 115] #[{ accessFlags := 18, nameIndex := 5, descriptorIndex := 6, attributes := #[] }, { accessFlags := 18, nameIndex := 9, descriptorIndex := 10, attributes := #[] }, { accessFlags := 2, nameIndex := 19, descriptorIndex := 10, attributes := #[] }])
  fields := #[{ name := "name", type := (.object "java/lang/String"), accessFlags := 18, slot := 0, constantValue := 0 }, { name := "ordinal", type := .int, accessFlags := 18, slot := 1, constantValue := 0 }, { name := "hash", type := .int, accessFlags := 2, slot := 2, constantValue := 0 }]
  methods := #[]
  instanceTypes := #[(.object "java/lang/String"), .int, .int]
  staticTypes := #[]
  resolved := Array.replicate 204 none
  statics := none }

def pool6 : Array CpInfo := pool [(1, .class_ 2), (0, u "com/example/warning_recheck/warningrecheck/engine/LibraryFunction"), (2, u "MALLOC"), (0, u "Lcom/example/warning_recheck/warningrecheck/engine/LibraryFunction;"), (2, u "CALLOC"), (0, .fieldref 1 11), (0, .nameAndType 12 6), (0, u "FREE"), (0, .fieldref 1 14), (0, .nameAndType 15 6), (0, u "REALLOC"), (0, .fieldref 1 17), (0, .nameAndType 18 6), (0, u "ABORT"), (0, .fieldref 1 20), (0, .nameAndType 21 6), (0, u "EXIT"), (0, .fieldref 1 23), (0, .nameAndType 24 6), (0, u "IMMEDIATE_EXIT"), (0, .fieldref 1 26), (0, .nameAndType 27 6), (0, u "QUICK_EXIT"), (2, u "$VALUES"), (0, u "[Lcom/example/warning_recheck/warningrecheck/engine/LibraryFunction;"), (6, .class_ 40), (1, u "java/lang/Enum"), (8, u "name"), (0, u "Ljava/lang/String;"), (70, u "()Z"), (1, u "frees"), (0, u "returns")] 27

def k6c0 : Code := { maxStack := 2, maxLocals := 1, code := prog_10_method_6_code, exceptionTable := #[], attributes := #[] }
def k6m0 : Method := { name := "frees", desc := "()Z", sig := { parameters := [], returnType := some .boolean }, accessFlags := 0, code := some k6c0 }
def k6c1 : Code := { maxStack := 2, maxLocals := 1, code := prog_10_method_7_code, exceptionTable := #[], attributes := #[] }
def k6m1 : Method := { name := "returns", desc := "()Z", sig := { parameters := [], returnType := some .boolean }, accessFlags := 0, code := some k6c1 }
/-- com/example/warning_recheck/warningrecheck/engine/LibraryFunction -/
def k6 : Class := { plain "com/example/warning_recheck/warningrecheck/engine/LibraryFunction" (some 5) with
  accessFlags := 16432
  interfaces := #[]
  cf := some (fileOf pool6 1 #[] #[{ accessFlags := 0, nameIndex := 123, descriptorIndex := 121, attributes := #[] }, { accessFlags := 0, nameIndex := 124, descriptorIndex := 121, attributes := #[] }] 16432 38 #[] #[{ accessFlags := 16409, nameIndex := 5, descriptorIndex := 6, attributes := #[] }, { accessFlags := 16409, nameIndex := 9, descriptorIndex := 6, attributes := #[] }, { accessFlags := 16409, nameIndex := 12, descriptorIndex := 6, attributes := #[] }, { accessFlags := 16409, nameIndex := 15, descriptorIndex := 6, attributes := #[] }, { accessFlags := 16409, nameIndex := 18, descriptorIndex := 6, attributes := #[] }, { accessFlags := 16409, nameIndex := 21, descriptorIndex := 6, attributes := #[] }, { accessFlags := 16409, nameIndex := 24, descriptorIndex := 6, attributes := #[] }, { accessFlags := 16409, nameIndex := 27, descriptorIndex := 6, attributes := #[] }, { accessFlags := 18, nameIndex := 49, descriptorIndex := 50, attributes := #[] }, { accessFlags := 4122, nameIndex := 30, descriptorIndex := 31, attributes := #[] }])
  fields := #[{ name := "MALLOC", type := (.object "com/example/warning_recheck/warningrecheck/engine/LibraryFunction"), accessFlags := 16409, slot := 0, constantValue := 0 }, { name := "CALLOC", type := (.object "com/example/warning_recheck/warningrecheck/engine/LibraryFunction"), accessFlags := 16409, slot := 1, constantValue := 0 }, { name := "FREE", type := (.object "com/example/warning_recheck/warningrecheck/engine/LibraryFunction"), accessFlags := 16409, slot := 2, constantValue := 0 }, { name := "REALLOC", type := (.object "com/example/warning_recheck/warningrecheck/engine/LibraryFunction"), accessFlags := 16409, slot := 3, constantValue := 0 }, { name := "ABORT", type := (.object "com/example/warning_recheck/warningrecheck/engine/LibraryFunction"), accessFlags := 16409, slot := 4, constantValue := 0 }, { name := "EXIT", type := (.object "com/example/warning_recheck/warningrecheck/engine/LibraryFunction"), accessFlags := 16409, slot := 5, constantValue := 0 }, { name := "IMMEDIATE_EXIT", type := (.object "com/example/warning_recheck/warningrecheck/engine/LibraryFunction"), accessFlags := 16409, slot := 6, constantValue := 0 }, { name := "QUICK_EXIT", type := (.object "com/example/warning_recheck/warningrecheck/engine/LibraryFunction"), accessFlags := 16409, slot := 7, constantValue := 0 }, { name := "name", type := (.object "java/lang/String"), accessFlags := 18, slot := 3, constantValue := 0 }, { name := "$VALUES", type := (.array (.object "com/example/warning_recheck/warningrecheck/engine/LibraryFunction")), accessFlags := 4122, slot := 8, constantValue := 0 }]
  methods := #[k6m0, k6m1]
  instanceTypes := #[(.object "java/lang/String"), .int, .int, (.object "java/lang/String")]
  staticTypes := #[(.object "com/example/warning_recheck/warningrecheck/engine/LibraryFunction"), (.object "com/example/warning_recheck/warningrecheck/engine/LibraryFunction"), (.object "com/example/warning_recheck/warningrecheck/engine/LibraryFunction"), (.object "com/example/warning_recheck/warningrecheck/engine/LibraryFunction"), (.object "com/example/warning_recheck/warningrecheck/engine/LibraryFunction"), (.object "com/example/warning_recheck/warningrecheck/engine/LibraryFunction"), (.object "com/example/warning_recheck/warningrecheck/engine/LibraryFunction"), (.object "com/example/warning_recheck/warningrecheck/engine/LibraryFunction"), (.array (.object "com/example/warning_recheck/warningrecheck/engine/LibraryFunction"))]
  resolved := Array.replicate 152 none
  statics := some 0 }

def pool7 : Array CpInfo := pool [(1, u "java/lang/Cloneable"), (0, .class_ 1), (0, u "java/lang/Object"), (0, .class_ 3)] 3

/-- java/lang/Cloneable -/
def k7 : Class := { plain "java/lang/Cloneable" (some 0) with
  accessFlags := 1537
  interfaces := #[]
  cf := some (fileOf pool7 2 #[] #[] 1537 4 #[] #[])
  fields := #[]
  methods := #[]
  instanceTypes := #[]
  staticTypes := #[]
  resolved := Array.replicate 8 none
  statics := none }

/-- the primitive byte -/
def k8 : Class := { plain "byte" none with kind := .primitive 'B', accessFlags := 0x411 }
/-- [B -/
def k9 : Class := { plain "[B" (some 0) with kind := .array 8 .byte, interfaces := #[7, 4], accessFlags := 1041 }

/-- the primitive int -/
def k10 : Class := { plain "int" none with kind := .primitive 'I', accessFlags := 0x411 }
/-- [I -/
def k11 : Class := { plain "[I" (some 0) with kind := .array 10 .int, interfaces := #[7, 4], accessFlags := 1041 }

/-- [Lcom/example/warning_recheck/warningrecheck/engine/LibraryFunction; -/
def k12 : Class := { plain "[Lcom/example/warning_recheck/warningrecheck/engine/LibraryFunction;" (some 0) with kind := .array 6 (.object "com/example/warning_recheck/warningrecheck/engine/LibraryFunction"), interfaces := #[7, 4], accessFlags := 1041 }

def heap : Heap := #[{ cls := 6, slots := #[.ref 1, .ref 2, .ref 3, .ref 4, .ref 5, .ref 6, .ref 7, .ref 8, .null], vm := .statics 6 },
  { cls := 6, slots := #[.null, .int 0, .int 0, .null], vm := .none },
  { cls := 6, slots := #[.null, .int 1, .int 0, .null], vm := .none },
  { cls := 6, slots := #[.null, .int 2, .int 0, .null], vm := .none },
  { cls := 6, slots := #[.null, .int 3, .int 0, .null], vm := .none },
  { cls := 6, slots := #[.null, .int 4, .int 0, .null], vm := .none },
  { cls := 6, slots := #[.null, .int 5, .int 0, .null], vm := .none },
  { cls := 6, slots := #[.null, .int 6, .int 0, .null], vm := .none },
  { cls := 6, slots := #[.null, .int 7, .int 0, .null], vm := .none }]
def classes : Array Class := #[k0, k1, k2, k3, k4, k5, k6, k7, k8, k9, k10, k11, k12]
def interned : List (Array UInt16 × Addr) := []
def slotsUsed : Nat := 41
def theMethod : MethodId := ⟨1, 1⟩
def args0 : Array Value := #[.int 5]
def aboutOver (below : List Frame) : State where
  vm := { classes := classes, interned := interned.toArray }
  heap := heap
  slotsUsed := slotsUsed
  threads := #[{ frames := .invoking theMethod args0 :: below }]
def below0 : List Frame := [.native { method := ⟨0, 0⟩, args := #[] }]
def about1 : State := aboutOver below0
def p0 : Program := .bare "" "" ""
def e0 : Env := launch0.env 0 0 0
theorem w_frames : about1.frames = Frame.invoking theMethod args0 :: below0 := rfl
set_option maxRecDepth 65536 in
theorem w_args : argsFit about1.vm theMethod args0 = true := by decide +kernel
set_option maxRecDepth 65536 in
theorem w_heap : heapFits about1 = true := by decide +kernel
set_option maxRecDepth 65536 in
theorem w_runnable : about1.curStatus? = some .runnable := by decide +kernel
set_option maxRecDepth 65536 in
theorem w_alone : about1.alone = true := by decide +kernel
set_option maxRecDepth 65536 in
theorem w_named : about1.methodNamed? x = some theMethod := by decide +kernel
set_option maxRecDepth 65536 in
theorem w_hears : about1.hears theMethod below0 = true := by decide +kernel
set_option maxRecDepth 65536 in
theorem w_ripe : about1.ripe theMethod args0 below0 = true := by decide +kernel
theorem w_running : about1.status = .running := rfl
set_option maxRecDepth 65536 in
theorem w_room : about1.hasRoom e0.platform room_1 = true :=
  launch0.hasRoom_least _ room_1 (by decide +kernel) (by decide +kernel) (by decide +kernel) (by decide +kernel) (by decide +kernel) (by decide +kernel)
theorem allAtoms_all (ts : List Jvm.Cond) (a : Array Jvm.Value) (st : Jvm.State) : (allAtoms ts).before a st = ts.all (fun c => c.before a st) := by
  induction ts with
  | nil => rfl
  | cons c t ih =>
    show (Jvm.Cond.and c (allAtoms t)).before a st = _
    rw [Jvm.Cond.before_and, ih, List.all_cons]
def words1 : List Jvm.Cond := Jvm.Cond.code x code maxLocals ret :: tables_1
/-- a 'code' word, met by the world's own term for the bytes: nothing is compared byte by byte -/
theorem code_word {y : MethodName} {bytes : ByteArray} {mx : Nat} {rt : Option FieldType} {a : Array Value} {s : State} {m : MethodId} {meth : Method} {c : Code} (h1 : s.methodNamed? y = some m) (h2 : s.vm.method? m = some meth) (h3 : meth.code = some c) (h4 : c.code = bytes)
    (h5 : (c.maxLocals == mx && c.exceptionTable.isEmpty && decide (c.maxStack ≤ mostOperands) && decide (meth.sig.returnType = rt) && !meth.locks && decide (parseMethodDescriptor y.desc = some meth.sig)) = true) : (Jvm.Cond.code y bytes mx rt).before a s = true := by
  simp only [Bool.and_eq_true, beq_iff_eq, Bool.not_eq_true', decide_eq_true_eq] at h5
  obtain ⟨⟨⟨⟨⟨g1, g2⟩, g3⟩, g4⟩, g5⟩, g6⟩ := h5
  simp [Cond.before, Cond.holds, Cond.value, h1, h2, h3, h4, g1, g2, g3, g4, g5, g6]
def isCode : Jvm.Cond → Bool
  | .code _ _ _ _ => true
  | _ => false
theorem all_split {L : List Jvm.Cond} {P : Jvm.Cond → Bool} (h1 : L.all (fun c => isCode c || P c) = true) (h2 : ∀ c ∈ L.filter isCode, P c = true) : L.all P = true := by
  refine List.all_eq_true.mpr fun c hc => ?_
  have h := List.all_eq_true.mp h1 c hc
  rcases Bool.eq_false_or_eq_true (isCode c) with hi | hi
  · exact h2 c (List.mem_filter.mpr ⟨hc, hi⟩)
  · simpa [hi] using h
set_option maxRecDepth 65536 in
theorem w_c0 : (Jvm.Cond.code x code maxLocals ret).before args0 about1 = true := code_word (m := ⟨1, 1⟩) (meth := k1m1) (c := k1c1) (by decide +kernel) rfl rfl rfl (by decide +kernel)
set_option maxRecDepth 65536 in
theorem w_c1 : (Jvm.Cond.code ({ cls := "com/example/warning_recheck/warningrecheck/engine/LibraryFunction", name := "frees", desc := "()Z" } : Jvm.MethodName) prog_10_method_6_code (1 : Nat) (Option.some Jvm.ClassFile.FieldType.boolean)).before args0 about1 = true := code_word (m := ⟨6, 0⟩) (meth := k6m0) (c := k6c0) (by decide +kernel) rfl rfl rfl (by decide +kernel)
set_option maxRecDepth 65536 in
theorem w_c2 : (Jvm.Cond.code ({ cls := "com/example/warning_recheck/warningrecheck/engine/LibraryFunction", name := "returns", desc := "()Z" } : Jvm.MethodName) prog_10_method_7_code (1 : Nat) (Option.some Jvm.ClassFile.FieldType.boolean)).before args0 about1 = true := code_word (m := ⟨6, 1⟩) (meth := k6m1) (c := k6c1) (by decide +kernel) rfl rfl rfl (by decide +kernel)
def codes1 : List Jvm.Cond := [Jvm.Cond.code x code maxLocals ret, Jvm.Cond.code ({ cls := "com/example/warning_recheck/warningrecheck/engine/LibraryFunction", name := "frees", desc := "()Z" } : Jvm.MethodName) prog_10_method_6_code (1 : Nat) (Option.some Jvm.ClassFile.FieldType.boolean), Jvm.Cond.code ({ cls := "com/example/warning_recheck/warningrecheck/engine/LibraryFunction", name := "returns", desc := "()Z" } : Jvm.MethodName) prog_10_method_7_code (1 : Nat) (Option.some Jvm.ClassFile.FieldType.boolean)]
set_option maxRecDepth 65536 in
theorem codes_eq : words1.filter isCode = codes1 := rfl
theorem w_codes : ∀ c ∈ words1.filter isCode, c.before args0 about1 = true := by
  rw [codes_eq]
  intro c hc
  simp only [codes1, List.mem_cons, List.not_mem_nil, or_false] at hc
  rcases hc with rfl | rfl | rfl
  · exact w_c0
  · exact w_c1
  · exact w_c2
set_option maxRecDepth 65536 in
theorem w_t1 : (words1.take 24).all (fun c => isCode c || c.before args0 about1) = true := by decide +kernel
set_option maxRecDepth 65536 in
theorem w_t2 : (words1.drop 24).all (fun c => isCode c || c.before args0 about1) = true := by decide +kernel
theorem w_tables : (allAtoms (Jvm.Cond.code x code maxLocals ret :: tables_1)).before args0 about1 = true := by
  rw [allAtoms_all]
  show words1.all (fun c => c.before args0 about1) = true
  refine all_split ?_ w_codes
  rw [← List.take_append_drop 24 words1, List.all_append, w_t1, w_t2]
  rfl
set_option maxRecDepth 65536 in
theorem w_case : (Jvm.Cond.and given_1 narrow_1).before args0 about1 = true := by decide +kernel
theorem w_applies : (headSpec (Jvm.Cond.code x code maxLocals ret :: tables_1) room_1).applies x e0.platform about1 = true :=
  (Spec.applies_iff w_frames).mpr ⟨w_running, w_runnable, w_alone, w_named, w_hears, w_ripe, w_room, w_tables⟩
theorem atStart : AtStart classFile x code maxLocals ret World_1 tables_1 room_1 Calls_1 rest_1 Pre_1 launch0 p0 e0 about1 theMethod args0 below0 :=
  ⟨lists_1, trivial, launch0.admits_env _ _ _, launch0.least_env, fairChoices_fair.cas, fairChoices_fair.clock, w_frames, w_args, w_heap, w_applies, trivial, trivial, w_case⟩
end start1
theorem witness_1 : WitnessClaimed_1 := ⟨start1.p0, start1.e0, start1.about1, start1.theMethod, start1.args0, start1.below0, start1.atStart⟩
end Jvm.Pilot.@@N@@
