import JvmDerived
import JvmDerived.Pilot.@@N@@Statement
import JvmDerived.Pilot.@@N@@Code
set_option linter.unusedVariables false
set_option linter.unusedSimpArgs false
@@BLOCK:NumsL.lean.txt@@
namespace Jvm.Pilot.@@N@@
open Jvm Jvm.ClassFile Sem Op Lib Jvm.Free Jvm.Stand Jvm.LawKit Jvm.RoadKit Bundle Jvm.Pilot.@@N@@.Jvm.D
def OwnQ (r : Option Value) (h0 : Heap) (n0 : Nat) (v : Option Value) (h : Heap) (L : List Loc) : Prop := v = r ∧ Fr n0 L ∧ h = h0
theorem own_fldI {args : Array Value} {s : State} {t : Term} {a : Addr} {C n d : String} {v : Int32} (ev : t.eval args s none [] s = some (.ref a)) (h : (Cond.eq (Term.field t C n d) (Term.int v)).value args s none s [] = some true) : Fld s s.heap a C n d (.int v) := by
  obtain ⟨x, y, hx, hy, k1, k2⟩ := cmp_v (Or.inl h)
  have hy' : y = .int v := (Option.some.inj (hy.symm.trans (Term.int_eval v)))
  subst hy'
  obtain ⟨z, rfl⟩ := k2
  have e : z = v := by
    simp only [Cond.value, hx, hy] at h
    simpa using h
  subst e
  exact Fld.start ((fld_at ev).symm.trans hx)
theorem own_fldN {args : Array Value} {s : State} {t : Term} {a : Addr} {C n d : String} (ev : t.eval args s none [] s = some (.ref a)) (h : (Cond.eq (Term.field t C n d) Term.null).value args s none s [] = some true) : Fld s s.heap a C n d .null :=
  Fld.start ((fld_at ev).symm.trans (null_v h))
theorem own_fldR {args : Array Value} {s : State} {t u : Term} {a b : Addr} {C n d : String} (ev : t.eval args s none [] s = some (.ref a)) (eu : u.eval args s none [] s = some (.ref b)) (h : (Cond.eq (Term.field t C n d) u).value args s none s [] = some true) : Fld s s.heap a C n d (.ref b) := by
  obtain ⟨x, y, hx, hy, k1, k2⟩ := cmp_v (Or.inl h)
  have hy' : y = .ref b := (Option.some.inj (hy.symm.trans eu))
  subst hy'
  have hr : x.isRef = true := by cases x <;> simp_all [Kin, Value.isRef]
  have e : x = .ref b := gotT (eq_R hx hy hr rfl) h
  subst e
  exact Fld.start ((fld_at ev).symm.trans hx)
theorem own_k_n (k : Int32) (h0 : 0 ≤ k.toInt) (h1 : k.toInt < 2) : k = (0 : Int32) ∨ k = (1 : Int32) := by
  have h : k.toInt = 0 ∨ k.toInt = 1 := by omega
  rcases h with h | h
  · exact (Or.inl (Int32.toInt_inj.mp (h.trans (by decide))))
  · exact (Or.inr (Int32.toInt_inj.mp (h.trans (by decide))))
theorem own_k (x : Int32) : x &&& (1 : Int32) = (0 : Int32) ∨ x &&& (1 : Int32) = (1 : Int32) := by
  have e := Jvm.Kit.i32_mask x (1 : Int32) (k := 1) (by decide) (by decide)
  exact own_k_n _ (by omega) (by omega)
theorem d1_0 : decode prog_66_method_2_code 0 = .ok (.iload_n 0, 1) := by decide +kernel
theorem d1_1 : decode prog_66_method_2_code 1 = .ok (.ifCond .eq 9, 3) := by decide +kernel
theorem d1_4 : decode prog_66_method_2_code 4 = .ok (.getstatic 13, 3) := by decide +kernel
theorem d1_7 : decode prog_66_method_2_code 7 = .ok (.goto 6, 3) := by decide +kernel
theorem d1_13 : decode prog_66_method_2_code 13 = .ok (.areturn, 1) := by decide +kernel
theorem pn_1 : plainName "com/example/hakiki/hakiki/semantics/Value$Bool" = true := by first | (simp [plainName, overriddenIn]; done) | decide +kernel
theorem ef_1 (m : MethodId) (x0 : Int32) : entryFrame m #[(.int x0)] 1 = mkF m 0 #[.val (.int x0)] [] := by first | (simp [entryFrame, mkF, argsToLocals, Value.category]; done) | rfl
def Q1_f (Z : State) (p1 : Int32) (w2 : Addr) (h0 : Heap) (n0 : Nat) (v : Option Value) (h : Heap) (L : List Loc) : Prop := v = some (.ref w2) ∧ Fr n0 L ∧ h = h0
set_option maxRecDepth 65536 in
set_option maxHeartbeats 40000000 in
theorem rm1_f (l : Launch) (Z : State) (a0 : Array Value) (hw : ∀ d ∈ tables_1, d.before a0 Z = true) (ws : List Jvm.Cond) (p1 : Int32) (w2 : Addr) (h0 : Heap) (n0 : Nat) (Z0 : n0 ≤ h0.size) (S_TRUE : Sta Z h0 "com/example/hakiki/hakiki/semantics/Value$Bool" "TRUE" "Lcom/example/hakiki/hakiki/semantics/Value$Bool;" (.ref w2)) (hc1 : ¬ (p1 = (0 : Int32))) :
    MetFree l (⟨"com/example/hakiki/hakiki/semantics/Value$Bool", "of", "(Z)Lcom/example/hakiki/hakiki/semantics/Value$Bool;"⟩ : MethodName) (head1 (Jvm.Cond.code (⟨"com/example/hakiki/hakiki/semantics/Value$Bool", "of", "(Z)Lcom/example/hakiki/hakiki/semantics/Value$Bool;"⟩ : MethodName) prog_66_method_2_code 1 (some (.object "com/example/hakiki/hakiki/semantics/Value$Bool")) :: ws) ({ frames := 0, cells := 0, slots := 0, locals := 0 } : Room)) (fun a U => a = #[(.int p1)] ∧ Z.Warmed39 U.vm ∧ U.heap = h0) (fun _ _ _ _ _ => True) (fun _ U o U' => ∃ v L, o = .returned v ∧ Q1_f Z p1 w2 h0 n0 v U'.heap L ∧ FrameEnd U o U' L ({ frames := 0, cells := 0, slots := 0, locals := 0 } : Room).cells ({ frames := 0, cells := 0, slots := 0, locals := 0 } : Room).slots) := by
  refine MetFree.of_bodySF (plainFor_of_name pn_1) hisR ?_
  intro p e s m args below meth c s₁ Bd hml0 hP hK
  obtain ⟨rfl, hZ, hh⟩ := hP
  have hx := Bd.exec
  have hby := Bd.bytes
  have hml : c.maxLocals = 1 := hml0
  have hown : s.vm.findClass "com/example/hakiki/hakiki/semantics/Value$Bool" = some m.cls := findClass_of_methodNamed Bd.named
  have hnm := (name_of_methodNamed Bd.named Bd.method).1
  have X0 : Stand p l e ({ frames := 0, cells := 0, slots := 0, locals := 0 } : Room) s m #[(.int p1)] below meth c s₁ [] 0 0 := Stand.of_body Bd
  have e0 : s₁.heap = h0 := by rw [← hh, Bd.state]; rfl
  have N0 := Fr.nil n0
  have pre0 : ∀ t, Steps p.tables e below (s₁.setTop (mkF m 0 #[.val (.int p1)] [])) t → Steps p.tables e below (s₁.setTop (entryFrame m #[(.int p1)] 1)) t := fun t k => castTop (ef_1 m p1) k
  -- 3. LAWS
  obtain ⟨T3, X3, e3, st3⟩ := getS2 X0 hx hZ hown (host := "") (Or.inl (hw _ (List.mem_of_getElem? (i := 6) rfl))) Via.refl e0 S_TRUE (g := (mkF m 4 #[.val (.int p1)] [])) rfl (hb hby d1_4)
  obtain ⟨fs, hr, hrun, hended, hW, hsame⟩ := X3.leave (v := some (.ref w2)) (fun h => by rw [Bd.returns] at h; cases h)
  refine ⟨_, _, pre0 _ ?_, hrun, hended, _, _, rfl, ?_, ⟨_, rfl⟩, hW, hsame.mono (by decide) (by decide)⟩
  -- 4. STEPS
  · show Steps p.tables e below (s₁.setTop (mkF m 0 #[.val (.int p1)] [])) _
    refine XS.iloadN X0.here hx rfl (hb hby d1_0) rfl ?_
    show Steps p.tables e below (s₁.setTop (mkF m 1 #[.val (.int p1)] [(.int p1)])) _
    refine XS.ifNo X0.here hx rfl (hb hby d1_1) rfl ((if0 _ _).trans (feq hc1).1) ?_
    show Steps p.tables e below (s₁.setTop (mkF m 4 #[.val (.int p1)] [])) _
    refine st3 _ ?_
    show Steps p.tables e below (T3.setTop (mkF m 7 #[.val (.int p1)] [(.ref w2)])) _
    refine XS.goto X3.here hx rfl (pc0 := 7) (pc' := 13) rfl (hb hby d1_7) (by decide) (by decide) ?_
    show Steps p.tables e below (T3.setTop (mkF m 13 #[.val (.int p1)] [(.ref w2)])) _
    jvm_step X3.here [X3.here.top, hx, (hb hby d1_13), X3.method', Bd.returns, Value.isRef, FieldType.isReference]
    first | (intro acts; rw [hr _ acts rfl rfl rfl]) | rw [hr _ _ rfl rfl rfl]
    exact Steps.refl _
  · show Q1_f Z p1 w2 h0 n0 _ T3.heap _
    rw [e3]
    exact ⟨rfl, N0, rfl⟩
theorem d1_10 : decode prog_66_method_2_code 10 = .ok (.getstatic 17, 3) := by decide +kernel
def Q1_t (Z : State) (p1 : Int32) (w2 : Addr) (h0 : Heap) (n0 : Nat) (v : Option Value) (h : Heap) (L : List Loc) : Prop := v = some (.ref w2) ∧ Fr n0 L ∧ h = h0
set_option maxRecDepth 65536 in
set_option maxHeartbeats 40000000 in
theorem rm1_t (l : Launch) (Z : State) (a0 : Array Value) (hw : ∀ d ∈ tables_1, d.before a0 Z = true) (ws : List Jvm.Cond) (p1 : Int32) (w2 : Addr) (h0 : Heap) (n0 : Nat) (Z0 : n0 ≤ h0.size) (S_FALSE : Sta Z h0 "com/example/hakiki/hakiki/semantics/Value$Bool" "FALSE" "Lcom/example/hakiki/hakiki/semantics/Value$Bool;" (.ref w2)) (hc1 : p1 = (0 : Int32)) :
    MetFree l (⟨"com/example/hakiki/hakiki/semantics/Value$Bool", "of", "(Z)Lcom/example/hakiki/hakiki/semantics/Value$Bool;"⟩ : MethodName) (head1 (Jvm.Cond.code (⟨"com/example/hakiki/hakiki/semantics/Value$Bool", "of", "(Z)Lcom/example/hakiki/hakiki/semantics/Value$Bool;"⟩ : MethodName) prog_66_method_2_code 1 (some (.object "com/example/hakiki/hakiki/semantics/Value$Bool")) :: ws) ({ frames := 0, cells := 0, slots := 0, locals := 0 } : Room)) (fun a U => a = #[(.int p1)] ∧ Z.Warmed39 U.vm ∧ U.heap = h0) (fun _ _ _ _ _ => True) (fun _ U o U' => ∃ v L, o = .returned v ∧ Q1_t Z p1 w2 h0 n0 v U'.heap L ∧ FrameEnd U o U' L ({ frames := 0, cells := 0, slots := 0, locals := 0 } : Room).cells ({ frames := 0, cells := 0, slots := 0, locals := 0 } : Room).slots) := by
  refine MetFree.of_bodySF (plainFor_of_name pn_1) hisR ?_
  intro p e s m args below meth c s₁ Bd hml0 hP hK
  obtain ⟨rfl, hZ, hh⟩ := hP
  have hx := Bd.exec
  have hby := Bd.bytes
  have hml : c.maxLocals = 1 := hml0
  have hown : s.vm.findClass "com/example/hakiki/hakiki/semantics/Value$Bool" = some m.cls := findClass_of_methodNamed Bd.named
  have hnm := (name_of_methodNamed Bd.named Bd.method).1
  have X0 : Stand p l e ({ frames := 0, cells := 0, slots := 0, locals := 0 } : Room) s m #[(.int p1)] below meth c s₁ [] 0 0 := Stand.of_body Bd
  have e0 : s₁.heap = h0 := by rw [← hh, Bd.state]; rfl
  have N0 := Fr.nil n0
  have pre0 : ∀ t, Steps p.tables e below (s₁.setTop (mkF m 0 #[.val (.int p1)] [])) t → Steps p.tables e below (s₁.setTop (entryFrame m #[(.int p1)] 1)) t := fun t k => castTop (ef_1 m p1) k
  -- 3. LAWS
  obtain ⟨T3, X3, e3, st3⟩ := getS2 X0 hx hZ hown (host := "") (Or.inl (hw _ (List.mem_of_getElem? (i := 4) rfl))) Via.refl e0 S_FALSE (g := (mkF m 10 #[.val (.int p1)] [])) rfl (hb hby d1_10)
  obtain ⟨fs, hr, hrun, hended, hW, hsame⟩ := X3.leave (v := some (.ref w2)) (fun h => by rw [Bd.returns] at h; cases h)
  refine ⟨_, _, pre0 _ ?_, hrun, hended, _, _, rfl, ?_, ⟨_, rfl⟩, hW, hsame.mono (by decide) (by decide)⟩
  -- 4. STEPS
  · show Steps p.tables e below (s₁.setTop (mkF m 0 #[.val (.int p1)] [])) _
    refine XS.iloadN X0.here hx rfl (hb hby d1_0) rfl ?_
    show Steps p.tables e below (s₁.setTop (mkF m 1 #[.val (.int p1)] [(.int p1)])) _
    refine XS.ifYes X0.here hx rfl (pc0 := 1) (pc' := 10) rfl (hb hby d1_1) rfl ((if0 _ _).trans (teq hc1).1) (by decide) (by decide) ?_
    show Steps p.tables e below (s₁.setTop (mkF m 10 #[.val (.int p1)] [])) _
    refine st3 _ ?_
    show Steps p.tables e below (T3.setTop (mkF m 13 #[.val (.int p1)] [(.ref w2)])) _
    jvm_step X3.here [X3.here.top, hx, (hb hby d1_13), X3.method', Bd.returns, Value.isRef, FieldType.isReference]
    first | (intro acts; rw [hr _ acts rfl rfl rfl]) | rw [hr _ _ rfl rfl rfl]
    exact Steps.refl _
  · show Q1_t Z p1 w2 h0 n0 _ T3.heap _
    rw [e3]
    exact ⟨rfl, N0, rfl⟩
def P1 (Z : State) (h0 : Heap) (p1 : Int32) (r : Option Value) : Prop := (∃ (w2 : Addr), (Sta Z h0 "com/example/hakiki/hakiki/semantics/Value$Bool" "TRUE" "Lcom/example/hakiki/hakiki/semantics/Value$Bool;" (.ref w2)) ∧ (¬ (p1 = (0 : Int32))) ∧ r = some (.ref w2)) ∨ (∃ (w2 : Addr), (Sta Z h0 "com/example/hakiki/hakiki/semantics/Value$Bool" "FALSE" "Lcom/example/hakiki/hakiki/semantics/Value$Bool;" (.ref w2)) ∧ (p1 = (0 : Int32)) ∧ r = some (.ref w2))
set_option maxRecDepth 65536 in
set_option maxHeartbeats 40000000 in
theorem own_1 (l : Launch) (Z : State) (a0 : Array Value) (hw : ∀ d ∈ tables_1, d.before a0 Z = true) (ws : List Jvm.Cond) (p1 : Int32) (r : Option Value) (h0 : Heap) (n0 : Nat) (Z0 : n0 ≤ h0.size) (hp : P1 Z h0 p1 r) :
    MetFree l (⟨"com/example/hakiki/hakiki/semantics/Value$Bool", "of", "(Z)Lcom/example/hakiki/hakiki/semantics/Value$Bool;"⟩ : MethodName) (head1 (Jvm.Cond.code (⟨"com/example/hakiki/hakiki/semantics/Value$Bool", "of", "(Z)Lcom/example/hakiki/hakiki/semantics/Value$Bool;"⟩ : MethodName) prog_66_method_2_code 1 (some (.object "com/example/hakiki/hakiki/semantics/Value$Bool")) :: ws) ({ frames := 0, cells := 0, slots := 0, locals := 0 } : Room)) (fun a U => a = #[(.int p1)] ∧ Z.Warmed39 U.vm ∧ U.heap = h0) (fun _ _ _ _ _ => True) (fun _ U o U' => ∃ v L, o = .returned v ∧ OwnQ r h0 n0 v U'.heap L ∧ FrameEnd U o U' L ({ frames := 0, cells := 0, slots := 0, locals := 0 } : Room).cells ({ frames := 0, cells := 0, slots := 0, locals := 0 } : Room).slots) := by
  rcases hp with ⟨w2, k0, k1, rfl⟩ | ⟨w2, k0, k1, rfl⟩
  · exact rm1_f l Z a0 hw ws p1 w2 h0 n0 Z0 k0 k1
  · exact rm1_t l Z a0 hw ws p1 w2 h0 n0 Z0 k0 k1
theorem d2_0 : decode prog_66_method_6_code 0 = .ok (.aload_n 0, 1) := by decide +kernel
theorem d2_1 : decode prog_66_method_6_code 1 = .ok (.getfield 7, 3) := by decide +kernel
theorem d2_4 : decode prog_66_method_6_code 4 = .ok (.ireturn, 1) := by decide +kernel
theorem pn_2 : plainName "com/example/hakiki/hakiki/semantics/Value$Bool" = true := by first | (simp [plainName, overriddenIn]; done) | decide +kernel
theorem ef_2 (m : MethodId) (x0 : Addr) : entryFrame m #[(.ref x0)] 1 = mkF m 0 #[.val (.ref x0)] [] := by first | (simp [entryFrame, mkF, argsToLocals, Value.category]; done) | rfl
def Q2_o (Z : State) (a1 : Addr) (w2 : Int32) (h0 : Heap) (n0 : Nat) (v : Option Value) (h : Heap) (L : List Loc) : Prop := v = some (.int w2) ∧ Fr n0 L ∧ h = h0
set_option maxRecDepth 65536 in
set_option maxHeartbeats 40000000 in
theorem rm2_o (l : Launch) (Z : State) (a0 : Array Value) (hw : ∀ d ∈ tables_1, d.before a0 Z = true) (ws : List Jvm.Cond) (a1 : Addr) (w2 : Int32) (h0 : Heap) (n0 : Nat) (Z0 : n0 ≤ h0.size) (F_holds_a1 : Fld Z h0 a1 "com/example/hakiki/hakiki/semantics/Value$Bool" "holds" "Z" (.int w2)) (hnar : nar .boolean w2 = w2) :
    MetFree l (⟨"com/example/hakiki/hakiki/semantics/Value$Bool", "holds", "()Z"⟩ : MethodName) (head1 (Jvm.Cond.code (⟨"com/example/hakiki/hakiki/semantics/Value$Bool", "holds", "()Z"⟩ : MethodName) prog_66_method_6_code 1 (some .boolean) :: ws) ({ frames := 0, cells := 0, slots := 0, locals := 0 } : Room)) (fun a U => a = #[(.ref a1)] ∧ Z.Warmed39 U.vm ∧ U.heap = h0) (fun _ _ _ _ _ => True) (fun _ U o U' => ∃ v L, o = .returned v ∧ Q2_o Z a1 w2 h0 n0 v U'.heap L ∧ FrameEnd U o U' L ({ frames := 0, cells := 0, slots := 0, locals := 0 } : Room).cells ({ frames := 0, cells := 0, slots := 0, locals := 0 } : Room).slots) := by
  refine MetFree.of_bodySF (plainFor_of_name pn_2) hisR ?_
  intro p e s m args below meth c s₁ Bd hml0 hP hK
  obtain ⟨rfl, hZ, hh⟩ := hP
  have hx := Bd.exec
  have hby := Bd.bytes
  have hml : c.maxLocals = 1 := hml0
  have hown : s.vm.findClass "com/example/hakiki/hakiki/semantics/Value$Bool" = some m.cls := findClass_of_methodNamed Bd.named
  have hnm := (name_of_methodNamed Bd.named Bd.method).1
  have X0 : Stand p l e ({ frames := 0, cells := 0, slots := 0, locals := 0 } : Room) s m #[(.ref a1)] below meth c s₁ [] 0 0 := Stand.of_body Bd
  have e0 : s₁.heap = h0 := by rw [← hh, Bd.state]; rfl
  have N0 := Fr.nil n0
  have pre0 : ∀ t, Steps p.tables e below (s₁.setTop (mkF m 0 #[.val (.ref a1)] [])) t → Steps p.tables e below (s₁.setTop (entryFrame m #[(.ref a1)] 1)) t := fun t k => castTop (ef_2 m a1) k
  -- 3. LAWS
  obtain ⟨T3, X3, e3, st3⟩ := getF X0 hx hZ hown (host := "") (Or.inl (hw _ (List.mem_of_getElem? (i := 15) rfl))) Via.refl e0 F_holds_a1 (g := (mkF m 1 #[.val (.ref a1)] [(.ref a1)])) rfl rfl (hb hby d2_1)
  obtain ⟨fs, hr, hrun, hended, hW, hsame⟩ := X3.leave (v := some (.int w2)) (fun h => by rw [Bd.returns] at h; cases h)
  refine ⟨_, _, pre0 _ ?_, hrun, hended, _, _, rfl, ?_, ⟨_, rfl⟩, hW, hsame.mono (by decide) (by decide)⟩
  -- 4. STEPS
  · show Steps p.tables e below (s₁.setTop (mkF m 0 #[.val (.ref a1)] [])) _
    refine XS.aloadN X0.here hx rfl (hb hby d2_0) rfl rfl ?_
    show Steps p.tables e below (s₁.setTop (mkF m 1 #[.val (.ref a1)] [(.ref a1)])) _
    refine st3 _ ?_
    show Steps p.tables e below (T3.setTop (mkF m 4 #[.val (.ref a1)] [(.int w2)])) _
    exact retN X3 hx (t := .boolean) Bd.returns (by simp) (hb hby d2_4) (by rw [hnar]; exact hr)
  · show Q2_o Z a1 w2 h0 n0 _ T3.heap _
    rw [e3]
    exact ⟨rfl, N0, rfl⟩
def P2 (Z : State) (h0 : Heap) (a1 : Addr) (r : Option Value) : Prop := (∃ (w2 : Int32), (Fld Z h0 a1 "com/example/hakiki/hakiki/semantics/Value$Bool" "holds" "Z" (.int w2)) ∧ (nar .boolean w2 = w2) ∧ r = some (.int w2))
set_option maxRecDepth 65536 in
set_option maxHeartbeats 40000000 in
theorem own_2 (l : Launch) (Z : State) (a0 : Array Value) (hw : ∀ d ∈ tables_1, d.before a0 Z = true) (ws : List Jvm.Cond) (a1 : Addr) (r : Option Value) (h0 : Heap) (n0 : Nat) (Z0 : n0 ≤ h0.size) (hp : P2 Z h0 a1 r) :
    MetFree l (⟨"com/example/hakiki/hakiki/semantics/Value$Bool", "holds", "()Z"⟩ : MethodName) (head1 (Jvm.Cond.code (⟨"com/example/hakiki/hakiki/semantics/Value$Bool", "holds", "()Z"⟩ : MethodName) prog_66_method_6_code 1 (some .boolean) :: ws) ({ frames := 0, cells := 0, slots := 0, locals := 0 } : Room)) (fun a U => a = #[(.ref a1)] ∧ Z.Warmed39 U.vm ∧ U.heap = h0) (fun _ _ _ _ _ => True) (fun _ U o U' => ∃ v L, o = .returned v ∧ OwnQ r h0 n0 v U'.heap L ∧ FrameEnd U o U' L ({ frames := 0, cells := 0, slots := 0, locals := 0 } : Room).cells ({ frames := 0, cells := 0, slots := 0, locals := 0 } : Room).slots) := by
  obtain ⟨w2, k0, k1, rfl⟩ := hp
  · exact rm2_o l Z a0 hw ws a1 w2 h0 n0 Z0 k0 k1
theorem pn_0 : plainName "com/example/hakiki/hakiki/semantics/BoolOfPinLaw" = true := by first | (simp [plainName, overriddenIn]; done) | decide +kernel
theorem pd_0_0 : parseMethodDescriptor "(Z)Lcom/example/hakiki/hakiki/semantics/Value$Bool;" = some ⟨[.boolean], some (.object "com/example/hakiki/hakiki/semantics/Value$Bool")⟩ := by decide +kernel
theorem pd_0_1 : parseMethodDescriptor "()Z" = some ⟨[], some .boolean⟩ := by decide +kernel
theorem ef_0 (m : MethodId) (x0 : Int32) : entryFrame m #[(.int x0)] maxLocals = mkF m 0 #[.val (.int x0), .unset, .unset, .unset, .unset, .unset] [] := by first | (simp [entryFrame, mkF, argsToLocals, Value.category, maxLocals]; done) | rfl
def Q0_ftftfffffftfff (Z : State) (p1 : Int32) (w4 : Addr) (w6 : Addr) (h0 : Heap) (n0 : Nat) (v : Option Value) (h : Heap) (L : List Loc) : Prop := v = some (.int (1 : Int32)) ∧ Fr n0 L
set_option maxRecDepth 65536 in
set_option maxHeartbeats 40000000 in
theorem rm0_ftftfffffftfff (l : Launch) (Z : State) (a0 : Array Value) (hw : ∀ d ∈ tables_1, d.before a0 Z = true) (ws : List Jvm.Cond) (p1 : Int32) (w4 : Addr) (w6 : Addr) (r2 : Addr) (r3 : Addr) (r8 : Int32) (r9 : Int32) (r11 : Int32) (r13 : Int32) (h0 : Heap) (n0 : Nat) (Z0 : n0 ≤ h0.size) (S_TRUE : Sta Z h0 "com/example/hakiki/hakiki/semantics/Value$Bool" "TRUE" "Lcom/example/hakiki/hakiki/semantics/Value$Bool;" (.ref w4)) (S_FALSE : Sta Z h0 "com/example/hakiki/hakiki/semantics/Value$Bool" "FALSE" "Lcom/example/hakiki/hakiki/semantics/Value$Bool;" (.ref w6)) (E_w4 : Exa Z h0 w4 "com/example/hakiki/hakiki/semantics/Value$Bool") (E_w6 : Exa Z h0 w6 "com/example/hakiki/hakiki/semantics/Value$Bool") (hc3 : ¬ ((p1 &&& (1 : Int32)) = (0 : Int32))) (hc18 : ¬ ((1 : Int32) = (0 : Int32))) (hc41 : ¬ ((1 : Int32) = (0 : Int32))) (hc56 : ¬ ((1 : Int32) = (0 : Int32))) (ha73 : r2 = w4) (ha79 : r3 = w6) (ha84 : ¬ (r2 = r3)) (hc100 : ¬ ((1 : Int32) = (0 : Int32))) (hP2 : P1 Z h0 (1 : Int32) (some (.ref r2))) (hP3 : P1 Z h0 (0 : Int32) (some (.ref r3))) (E_r2 : Exa Z h0 r2 "com/example/hakiki/hakiki/semantics/Value$Bool") (hP8 : P2 Z h0 r2 (some (.int r8))) (E_r3 : Exa Z h0 r3 "com/example/hakiki/hakiki/semantics/Value$Bool") (hP9 : P2 Z h0 r3 (some (.int r9))) (hP11 : P2 Z h0 w4 (some (.int r11))) (hP13 : P2 Z h0 w6 (some (.int r13))) (hx1 : r8 = (1 : Int32)) (hx2 : r9 = (0 : Int32)) (hx3 : ¬ (r11 = (0 : Int32))) (hx4 : r13 = (0 : Int32)) :
    MetFree l x (head1 (Jvm.Cond.code x code maxLocals ret :: ws) room_1) (fun a U => a = #[(.int p1)] ∧ Z.Warmed39 U.vm ∧ U.heap = h0) (fun _ _ _ _ _ => True) (fun _ U o U' => ∃ v L, o = .returned v ∧ Q0_ftftfffffftfff Z p1 w4 w6 h0 n0 v U'.heap L ∧ FrameEnd U o U' L room_1.cells room_1.slots) := by
  refine MetFree.of_bodySF (plainFor_of_name pn_0) hisR ?_
  intro p e s m args below meth c s₁ Bd hml0 hP hK
  obtain ⟨rfl, hZ, hh⟩ := hP
  have hx := Bd.exec
  have hby := Bd.bytes
  have hml : c.maxLocals = 6 := hml0
  have hown : s.vm.findClass "com/example/hakiki/hakiki/semantics/BoolOfPinLaw" = some m.cls := findClass_of_methodNamed Bd.named
  have hnm := (name_of_methodNamed Bd.named Bd.method).1
  have X0 : Stand p l e room_1 s m #[(.int p1)] below meth c s₁ [] 0 0 := Stand.of_body Bd
  have e0 : s₁.heap = h0 := by rw [← hh, Bd.state]; rfl
  have N0 := Fr.nil n0
  have pre0 : ∀ t, Steps p.tables e below (s₁.setTop (mkF m 0 #[.val (.int p1), .unset, .unset, .unset, .unset, .unset] [])) t → Steps p.tables e below (s₁.setTop (entryFrame m #[(.int p1)] maxLocals)) t := fun t k => castTop (ef_0 m p1) k
  -- 3. LAWS
  -- pc 13: com/example/hakiki/hakiki/semantics/Value$Bool.of by its contract rm1
  obtain ⟨_, _, ⟨T2, L2, k2, n2⟩, -, X2, ⟨Lc2, hQ2, l2, y2, z2⟩, st2⟩ := Jvm.LawKit.callS X0 hx (y := (⟨"com/example/hakiki/hakiki/semantics/Value$Bool", "of", "(Z)Lcom/example/hakiki/hakiki/semantics/Value$Bool;"⟩ : MethodName)) hown (mvT hZ (hw _ (List.mem_of_getElem? (i := 0) rfl))) (mvT hZ (hw _ (List.mem_of_getElem? (i := 1) rfl))) (mvT hZ (hw _ (List.mem_of_getElem? (i := 2) rfl))) (mvT hZ (hw _ (List.mem_of_getElem? (i := 3) rfl))) (by decide) (backOf (W := 0) (own_1 l Z a0 hw [] (1 : Int32) (some (.ref r2)) h0 n0 Z0 hP2) hZ (hw _ (List.mem_of_getElem? (i := 3) rfl)) (hw _ (List.mem_of_getElem? (i := 2) rfl)) (by decide) (by decide)) (g := (mkF m 13 #[.val (.int p1), .val (.int (1 : Int32)), .unset, .unset, .unset, .unset] [(.int (1 : Int32))])) rfl (by rw [hml]; rfl) (argsL := [(.int (1 : Int32))]) (rest := []) (lenOf pd_0_0 rfl) rfl (by show 2 * 0 + _ ≤ _; exact Nat.le_of_eq rfl) (hb hby at_13) (fun _ _ => ⟨rfl, e0, (by decide : 0 + 0 ≤ _), (by decide : 0 + 0 ≤ _)⟩)
  dsimp only [Pt.U, Pt.locs, Pt.cells, Pt.slots] at X2 l2 y2 z2 st2 hQ2
  subst l2 y2 z2
  obtain ⟨rfl, N2q, e2⟩ := hQ2      -- what it returned, that it wrote nothing old, and the rest of your Q1
  have N2 := Fr.app N0 N2q
  -- pc 26: com/example/hakiki/hakiki/semantics/Value$Bool.of by its contract rm1
  obtain ⟨_, _, ⟨T3, L3, k3, n3⟩, -, X3, ⟨Lc3, hQ3, l3, y3, z3⟩, st3⟩ := Jvm.LawKit.callS X2 hx (y := (⟨"com/example/hakiki/hakiki/semantics/Value$Bool", "of", "(Z)Lcom/example/hakiki/hakiki/semantics/Value$Bool;"⟩ : MethodName)) hown (mvT hZ (hw _ (List.mem_of_getElem? (i := 0) rfl))) (mvT hZ (hw _ (List.mem_of_getElem? (i := 1) rfl))) (mvT hZ (hw _ (List.mem_of_getElem? (i := 2) rfl))) (mvT hZ (hw _ (List.mem_of_getElem? (i := 3) rfl))) (by decide) (backOf (W := 0) (own_1 l Z a0 hw [] (0 : Int32) (some (.ref r3)) h0 n0 Z0 hP3) hZ (hw _ (List.mem_of_getElem? (i := 3) rfl)) (hw _ (List.mem_of_getElem? (i := 2) rfl)) (by decide) (by decide)) (g := (mkF m 26 #[.val (.int p1), .val (.int (1 : Int32)), .val (.ref r2), .unset, .unset, .unset] [(.int (0 : Int32))])) rfl (by rw [hml]; rfl) (argsL := [(.int (0 : Int32))]) (rest := []) (lenOf pd_0_0 rfl) rfl (by show 2 * 0 + _ ≤ _; exact Nat.le_of_eq rfl) (hb hby at_26) (fun _ _ => ⟨rfl, e2, (by decide : 0 + 0 ≤ _), (by decide : 0 + 0 ≤ _)⟩)
  dsimp only [Pt.U, Pt.locs, Pt.cells, Pt.slots] at X3 l3 y3 z3 st3 hQ3
  subst l3 y3 z3
  obtain ⟨rfl, N3q, e3⟩ := hQ3      -- what it returned, that it wrote nothing old, and the rest of your Q1
  have N3 := Fr.app N2 N3q
  -- ✋ yours: S_TRUE must speak of T3.heap here (carried as the other facts are)
  obtain ⟨T5, X5, e5, st5⟩ := getS2 X3 hx hZ hown (host := "") (Or.inl (hw _ (List.mem_of_getElem? (i := 9) rfl))) Via.refl e3 S_TRUE (g := (mkF m 44 #[.val (.int p1), .val (.int (1 : Int32)), .val (.ref r2), .val (.ref r3), .unset, .unset] [])) rfl (hb hby at_44)
  -- ✋ yours: S_FALSE must speak of T3.heap here (carried as the other facts are)
  obtain ⟨T7, X7, e7, st7⟩ := getS2 X5 hx hZ hown (host := "") (Or.inl (hw _ (List.mem_of_getElem? (i := 8) rfl))) Via.refl e5 S_FALSE (g := (mkF m 59 #[.val (.int p1), .val (.int (1 : Int32)), .val (.ref r2), .val (.ref r3), .val (.ref w4), .unset] [])) rfl (hb hby at_59)
  -- pc 88: com/example/hakiki/hakiki/semantics/Value$Bool.holds by the contract of the body that the receiver's class selects, rm2
  obtain ⟨cq8, kq8, q8a, q8b, q8c⟩ := isOf hZ e7 E_r2
  obtain ⟨_, _, ⟨T8, L8, k8, n8⟩, -, X8, ⟨Lc8, hQ8, l8, y8, z8⟩, st8⟩ := X7.virtualBack hx (y := (⟨"com/example/hakiki/hakiki/semantics/Value$Bool", "holds", "()Z"⟩ : MethodName)) (z := (⟨"com/example/hakiki/hakiki/semantics/Value$Bool", "holds", "()Z"⟩ : MethodName)) hown (mvT hZ (hw _ (List.mem_of_getElem? (i := 10) rfl))) (mvT hZ (hw _ (List.mem_of_getElem? (i := 11) rfl))) (notFace_of_selects (args := #[]) (mvT hZ (hw _ (List.mem_of_getElem? (i := 13) rfl)))) (mvT hZ (hw _ (List.mem_of_getElem? (i := 13) rfl))) (mvT hZ (hw _ (List.mem_of_getElem? (i := 12) rfl))) (by decide) (backOf (W := 0) (own_2 l Z a0 hw [] r2 (some (.int r8)) h0 n0 Z0 hP8) hZ (hw _ (List.mem_of_getElem? (i := 14) rfl)) (hw _ (List.mem_of_getElem? (i := 2) rfl)) (by decide) (by decide)) q8a q8c (g := (mkF m 88 #[.val (.int p1), .val (.int (1 : Int32)), .val (.ref r2), .val (.ref r3), .val (.ref w4), .val (.ref w6)] [(.ref r2)])) rfl (by rw [hml]; rfl) (Steps.refl _) (argsL := []) (rest := []) (lenOf pd_0_1 rfl) rfl (by show 2 * 0 + _ ≤ _; exact Nat.le_of_eq rfl) (hb hby at_88) (fun _ _ => ⟨rfl, e7, (by decide : 0 + 0 ≤ _), (by decide : 0 + 0 ≤ _)⟩)
  dsimp only [Pt.U, Pt.locs, Pt.cells, Pt.slots] at X8 l8 y8 z8 st8 hQ8
  subst l8 y8 z8
  obtain ⟨rfl, N8q, e8⟩ := hQ8      -- what it returned, that it wrote nothing old, and the rest of your Q2
  have N8 := Fr.app N3 N8q
  -- pc 96: com/example/hakiki/hakiki/semantics/Value$Bool.holds by the contract of the body that the receiver's class selects, rm2
  obtain ⟨cq9, kq9, q9a, q9b, q9c⟩ := isOf hZ e8 E_r3
  obtain ⟨_, _, ⟨T9, L9, k9, n9⟩, -, X9, ⟨Lc9, hQ9, l9, y9, z9⟩, st9⟩ := X8.virtualBack hx (y := (⟨"com/example/hakiki/hakiki/semantics/Value$Bool", "holds", "()Z"⟩ : MethodName)) (z := (⟨"com/example/hakiki/hakiki/semantics/Value$Bool", "holds", "()Z"⟩ : MethodName)) hown (mvT hZ (hw _ (List.mem_of_getElem? (i := 10) rfl))) (mvT hZ (hw _ (List.mem_of_getElem? (i := 11) rfl))) (notFace_of_selects (args := #[]) (mvT hZ (hw _ (List.mem_of_getElem? (i := 13) rfl)))) (mvT hZ (hw _ (List.mem_of_getElem? (i := 13) rfl))) (mvT hZ (hw _ (List.mem_of_getElem? (i := 12) rfl))) (by decide) (backOf (W := 0) (own_2 l Z a0 hw [] r3 (some (.int r9)) h0 n0 Z0 hP9) hZ (hw _ (List.mem_of_getElem? (i := 14) rfl)) (hw _ (List.mem_of_getElem? (i := 2) rfl)) (by decide) (by decide)) q9a q9c (g := (mkF m 96 #[.val (.int p1), .val (.int (1 : Int32)), .val (.ref r2), .val (.ref r3), .val (.ref w4), .val (.ref w6)] [(.ref r3)])) rfl (by rw [hml]; rfl) (Steps.refl _) (argsL := []) (rest := []) (lenOf pd_0_1 rfl) rfl (by show 2 * 0 + _ ≤ _; exact Nat.le_of_eq rfl) (hb hby at_96) (fun _ _ => ⟨rfl, e8, (by decide : 0 + 0 ≤ _), (by decide : 0 + 0 ≤ _)⟩)
  dsimp only [Pt.U, Pt.locs, Pt.cells, Pt.slots] at X9 l9 y9 z9 st9 hQ9
  subst l9 y9 z9
  obtain ⟨rfl, N9q, e9⟩ := hQ9      -- what it returned, that it wrote nothing old, and the rest of your Q2
  have N9 := Fr.app N8 N9q
  -- ✋ yours: S_TRUE must speak of T9.heap here (carried as the other facts are)
  obtain ⟨T10, X10, e10, st10⟩ := getS2 X9 hx hZ hown (host := "") (Or.inl (hw _ (List.mem_of_getElem? (i := 9) rfl))) Via.refl e9 S_TRUE (g := (mkF m 111 #[.val (.int p1), .val (.int (1 : Int32)), .val (.ref r2), .val (.ref r3), .val (.ref w4), .val (.ref w6)] [])) rfl (hb hby at_111)
  -- pc 114: com/example/hakiki/hakiki/semantics/Value$Bool.holds by the contract of the body that the receiver's class selects, rm2
  obtain ⟨cq11, kq11, q11a, q11b, q11c⟩ := isOf hZ e10 E_w4
  obtain ⟨_, _, ⟨T11, L11, k11, n11⟩, -, X11, ⟨Lc11, hQ11, l11, y11, z11⟩, st11⟩ := X10.virtualBack hx (y := (⟨"com/example/hakiki/hakiki/semantics/Value$Bool", "holds", "()Z"⟩ : MethodName)) (z := (⟨"com/example/hakiki/hakiki/semantics/Value$Bool", "holds", "()Z"⟩ : MethodName)) hown (mvT hZ (hw _ (List.mem_of_getElem? (i := 10) rfl))) (mvT hZ (hw _ (List.mem_of_getElem? (i := 11) rfl))) (notFace_of_selects (args := #[]) (mvT hZ (hw _ (List.mem_of_getElem? (i := 13) rfl)))) (mvT hZ (hw _ (List.mem_of_getElem? (i := 13) rfl))) (mvT hZ (hw _ (List.mem_of_getElem? (i := 12) rfl))) (by decide) (backOf (W := 0) (own_2 l Z a0 hw [] w4 (some (.int r11)) h0 n0 Z0 hP11) hZ (hw _ (List.mem_of_getElem? (i := 14) rfl)) (hw _ (List.mem_of_getElem? (i := 2) rfl)) (by decide) (by decide)) q11a q11c (g := (mkF m 114 #[.val (.int p1), .val (.int (1 : Int32)), .val (.ref r2), .val (.ref r3), .val (.ref w4), .val (.ref w6)] [(.ref w4)])) rfl (by rw [hml]; rfl) (Steps.refl _) (argsL := []) (rest := []) (lenOf pd_0_1 rfl) rfl (by show 2 * 0 + _ ≤ _; exact Nat.le_of_eq rfl) (hb hby at_114) (fun _ _ => ⟨rfl, e10, (by decide : 0 + 0 ≤ _), (by decide : 0 + 0 ≤ _)⟩)
  dsimp only [Pt.U, Pt.locs, Pt.cells, Pt.slots] at X11 l11 y11 z11 st11 hQ11
  subst l11 y11 z11
  obtain ⟨rfl, N11q, e11⟩ := hQ11      -- what it returned, that it wrote nothing old, and the rest of your Q2
  have N11 := Fr.app N9 N11q
  -- ✋ yours: S_FALSE must speak of T11.heap here (carried as the other facts are)
  obtain ⟨T12, X12, e12, st12⟩ := getS2 X11 hx hZ hown (host := "") (Or.inl (hw _ (List.mem_of_getElem? (i := 8) rfl))) Via.refl e11 S_FALSE (g := (mkF m 120 #[.val (.int p1), .val (.int (1 : Int32)), .val (.ref r2), .val (.ref r3), .val (.ref w4), .val (.ref w6)] [])) rfl (hb hby at_120)
  -- pc 123: com/example/hakiki/hakiki/semantics/Value$Bool.holds by the contract of the body that the receiver's class selects, rm2
  obtain ⟨cq13, kq13, q13a, q13b, q13c⟩ := isOf hZ e12 E_w6
  obtain ⟨_, _, ⟨T13, L13, k13, n13⟩, -, X13, ⟨Lc13, hQ13, l13, y13, z13⟩, st13⟩ := X12.virtualBack hx (y := (⟨"com/example/hakiki/hakiki/semantics/Value$Bool", "holds", "()Z"⟩ : MethodName)) (z := (⟨"com/example/hakiki/hakiki/semantics/Value$Bool", "holds", "()Z"⟩ : MethodName)) hown (mvT hZ (hw _ (List.mem_of_getElem? (i := 10) rfl))) (mvT hZ (hw _ (List.mem_of_getElem? (i := 11) rfl))) (notFace_of_selects (args := #[]) (mvT hZ (hw _ (List.mem_of_getElem? (i := 13) rfl)))) (mvT hZ (hw _ (List.mem_of_getElem? (i := 13) rfl))) (mvT hZ (hw _ (List.mem_of_getElem? (i := 12) rfl))) (by decide) (backOf (W := 0) (own_2 l Z a0 hw [] w6 (some (.int r13)) h0 n0 Z0 hP13) hZ (hw _ (List.mem_of_getElem? (i := 14) rfl)) (hw _ (List.mem_of_getElem? (i := 2) rfl)) (by decide) (by decide)) q13a q13c (g := (mkF m 123 #[.val (.int p1), .val (.int (1 : Int32)), .val (.ref r2), .val (.ref r3), .val (.ref w4), .val (.ref w6)] [(.ref w6)])) rfl (by rw [hml]; rfl) (Steps.refl _) (argsL := []) (rest := []) (lenOf pd_0_1 rfl) rfl (by show 2 * 0 + _ ≤ _; exact Nat.le_of_eq rfl) (hb hby at_123) (fun _ _ => ⟨rfl, e12, (by decide : 0 + 0 ≤ _), (by decide : 0 + 0 ≤ _)⟩)
  dsimp only [Pt.U, Pt.locs, Pt.cells, Pt.slots] at X13 l13 y13 z13 st13 hQ13
  subst l13 y13 z13
  obtain ⟨rfl, N13q, e13⟩ := hQ13      -- what it returned, that it wrote nothing old, and the rest of your Q2
  have N13 := Fr.app N11 N13q
  obtain ⟨fs, hr, hrun, hended, hW, hsame⟩ := X13.leave (v := some (.int (1 : Int32))) (fun h => by rw [Bd.returns] at h; cases h)
  refine ⟨_, _, pre0 _ ?_, hrun, hended, _, _, rfl, ?_, ⟨_, rfl⟩, hW, hsame.mono (by decide) (by decide)⟩
  -- 4. STEPS
  · show Steps p.tables e below (s₁.setTop (mkF m 0 #[.val (.int p1), .unset, .unset, .unset, .unset, .unset] [])) _
    refine XS.iloadN X0.here hx rfl (hb hby at_0) rfl ?_
    show Steps p.tables e below (s₁.setTop (mkF m 1 #[.val (.int p1), .unset, .unset, .unset, .unset, .unset] [(.int p1)])) _
    refine XS.iconst X0.here hx rfl (hb hby at_1) ?_
    show Steps p.tables e below (s₁.setTop (mkF m 2 #[.val (.int p1), .unset, .unset, .unset, .unset, .unset] [(.int (1 : Int32)), (.int p1)])) _
    refine XS.iand X0.here hx rfl (hb hby at_2) rfl ?_
    show Steps p.tables e below (s₁.setTop (mkF m 3 #[.val (.int p1), .unset, .unset, .unset, .unset, .unset] [(.int (p1 &&& (1 : Int32)))])) _
    refine XS.ifNo X0.here hx rfl (hb hby at_3) rfl ((if0 _ _).trans (feq hc3).1) ?_
    show Steps p.tables e below (s₁.setTop (mkF m 6 #[.val (.int p1), .unset, .unset, .unset, .unset, .unset] [])) _
    refine XS.iconst X0.here hx rfl (hb hby at_6) ?_
    show Steps p.tables e below (s₁.setTop (mkF m 7 #[.val (.int p1), .unset, .unset, .unset, .unset, .unset] [(.int (1 : Int32))])) _
    refine XS.goto X0.here hx rfl (pc0 := 7) (pc' := 11) rfl (hb hby at_7) (by decide) (by decide) ?_
    show Steps p.tables e below (s₁.setTop (mkF m 11 #[.val (.int p1), .unset, .unset, .unset, .unset, .unset] [(.int (1 : Int32))])) _
    refine XS.istoreN X0.here hx rfl (hb hby at_11) rfl (l' := #[.val (.int p1), .val (.int (1 : Int32)), .unset, .unset, .unset, .unset]) rfl ?_
    show Steps p.tables e below (s₁.setTop (mkF m 12 #[.val (.int p1), .val (.int (1 : Int32)), .unset, .unset, .unset, .unset] [])) _
    refine XS.iloadN X0.here hx rfl (hb hby at_12) rfl ?_
    show Steps p.tables e below (s₁.setTop (mkF m 13 #[.val (.int p1), .val (.int (1 : Int32)), .unset, .unset, .unset, .unset] [(.int (1 : Int32))])) _
    refine st2 _ ?_
    show Steps p.tables e below (T2.setTop (mkF m 16 #[.val (.int p1), .val (.int (1 : Int32)), .unset, .unset, .unset, .unset] [(.ref r2)])) _
    refine XS.astoreN X2.here hx rfl (hb hby at_16) rfl rfl (l' := #[.val (.int p1), .val (.int (1 : Int32)), .val (.ref r2), .unset, .unset, .unset]) rfl ?_
    show Steps p.tables e below (T2.setTop (mkF m 17 #[.val (.int p1), .val (.int (1 : Int32)), .val (.ref r2), .unset, .unset, .unset] [])) _
    refine XS.iloadN X2.here hx rfl (hb hby at_17) rfl ?_
    show Steps p.tables e below (T2.setTop (mkF m 18 #[.val (.int p1), .val (.int (1 : Int32)), .val (.ref r2), .unset, .unset, .unset] [(.int (1 : Int32))])) _
    refine XS.ifYes X2.here hx rfl (pc0 := 18) (pc' := 25) rfl (hb hby at_18) rfl ((if0 _ _).trans (feq hc18).2) (by decide) (by decide) ?_
    show Steps p.tables e below (T2.setTop (mkF m 25 #[.val (.int p1), .val (.int (1 : Int32)), .val (.ref r2), .unset, .unset, .unset] [])) _
    refine XS.iconst X2.here hx rfl (hb hby at_25) ?_
    show Steps p.tables e below (T2.setTop (mkF m 26 #[.val (.int p1), .val (.int (1 : Int32)), .val (.ref r2), .unset, .unset, .unset] [(.int (0 : Int32))])) _
    refine st3 _ ?_
    show Steps p.tables e below (T3.setTop (mkF m 29 #[.val (.int p1), .val (.int (1 : Int32)), .val (.ref r2), .unset, .unset, .unset] [(.ref r3)])) _
    refine XS.astoreN X3.here hx rfl (hb hby at_29) rfl rfl (l' := #[.val (.int p1), .val (.int (1 : Int32)), .val (.ref r2), .val (.ref r3), .unset, .unset]) rfl ?_
    show Steps p.tables e below (T3.setTop (mkF m 30 #[.val (.int p1), .val (.int (1 : Int32)), .val (.ref r2), .val (.ref r3), .unset, .unset] [])) _
    refine XS.aloadN X3.here hx rfl (hb hby at_30) rfl rfl ?_
    show Steps p.tables e below (T3.setTop (mkF m 31 #[.val (.int p1), .val (.int (1 : Int32)), .val (.ref r2), .val (.ref r3), .unset, .unset] [(.ref r2)])) _
    refine XS.ifnullNo X3.here hx rfl (hb hby at_31) rfl ?_
    show Steps p.tables e below (T3.setTop (mkF m 34 #[.val (.int p1), .val (.int (1 : Int32)), .val (.ref r2), .val (.ref r3), .unset, .unset] [])) _
    refine XS.aloadN X3.here hx rfl (hb hby at_34) rfl rfl ?_
    show Steps p.tables e below (T3.setTop (mkF m 35 #[.val (.int p1), .val (.int (1 : Int32)), .val (.ref r2), .val (.ref r3), .unset, .unset] [(.ref r3)])) _
    refine XS.ifnonnullYes X3.here hx rfl (pc0 := 35) (pc' := 40) rfl (hb hby at_35) rfl (by decide) (by decide) ?_
    show Steps p.tables e below (T3.setTop (mkF m 40 #[.val (.int p1), .val (.int (1 : Int32)), .val (.ref r2), .val (.ref r3), .unset, .unset] [])) _
    refine XS.iloadN X3.here hx rfl (hb hby at_40) rfl ?_
    show Steps p.tables e below (T3.setTop (mkF m 41 #[.val (.int p1), .val (.int (1 : Int32)), .val (.ref r2), .val (.ref r3), .unset, .unset] [(.int (1 : Int32))])) _
    refine XS.ifNo X3.here hx rfl (hb hby at_41) rfl ((if0 _ _).trans (feq hc41).1) ?_
    show Steps p.tables e below (T3.setTop (mkF m 44 #[.val (.int p1), .val (.int (1 : Int32)), .val (.ref r2), .val (.ref r3), .unset, .unset] [])) _
    refine st5 _ ?_
    show Steps p.tables e below (T5.setTop (mkF m 47 #[.val (.int p1), .val (.int (1 : Int32)), .val (.ref r2), .val (.ref r3), .unset, .unset] [(.ref w4)])) _
    refine XS.goto X5.here hx rfl (pc0 := 47) (pc' := 53) rfl (hb hby at_47) (by decide) (by decide) ?_
    show Steps p.tables e below (T5.setTop (mkF m 53 #[.val (.int p1), .val (.int (1 : Int32)), .val (.ref r2), .val (.ref r3), .unset, .unset] [(.ref w4)])) _
    refine XS.astore X5.here hx rfl (hb hby at_53) rfl rfl (l' := #[.val (.int p1), .val (.int (1 : Int32)), .val (.ref r2), .val (.ref r3), .val (.ref w4), .unset]) rfl ?_
    show Steps p.tables e below (T5.setTop (mkF m 55 #[.val (.int p1), .val (.int (1 : Int32)), .val (.ref r2), .val (.ref r3), .val (.ref w4), .unset] [])) _
    refine XS.iloadN X5.here hx rfl (hb hby at_55) rfl ?_
    show Steps p.tables e below (T5.setTop (mkF m 56 #[.val (.int p1), .val (.int (1 : Int32)), .val (.ref r2), .val (.ref r3), .val (.ref w4), .unset] [(.int (1 : Int32))])) _
    refine XS.ifNo X5.here hx rfl (hb hby at_56) rfl ((if0 _ _).trans (feq hc56).1) ?_
    show Steps p.tables e below (T5.setTop (mkF m 59 #[.val (.int p1), .val (.int (1 : Int32)), .val (.ref r2), .val (.ref r3), .val (.ref w4), .unset] [])) _
    refine st7 _ ?_
    show Steps p.tables e below (T7.setTop (mkF m 62 #[.val (.int p1), .val (.int (1 : Int32)), .val (.ref r2), .val (.ref r3), .val (.ref w4), .unset] [(.ref w6)])) _
    refine XS.goto X7.here hx rfl (pc0 := 62) (pc' := 68) rfl (hb hby at_62) (by decide) (by decide) ?_
    show Steps p.tables e below (T7.setTop (mkF m 68 #[.val (.int p1), .val (.int (1 : Int32)), .val (.ref r2), .val (.ref r3), .val (.ref w4), .unset] [(.ref w6)])) _
    refine XS.astore X7.here hx rfl (hb hby at_68) rfl rfl (l' := #[.val (.int p1), .val (.int (1 : Int32)), .val (.ref r2), .val (.ref r3), .val (.ref w4), .val (.ref w6)]) rfl ?_
    show Steps p.tables e below (T7.setTop (mkF m 70 #[.val (.int p1), .val (.int (1 : Int32)), .val (.ref r2), .val (.ref r3), .val (.ref w4), .val (.ref w6)] [])) _
    refine XS.aloadN X7.here hx rfl (hb hby at_70) rfl rfl ?_
    show Steps p.tables e below (T7.setTop (mkF m 71 #[.val (.int p1), .val (.int (1 : Int32)), .val (.ref r2), .val (.ref r3), .val (.ref w4), .val (.ref w6)] [(.ref r2)])) _
    refine XS.aload X7.here hx rfl (hb hby at_71) rfl rfl ?_
    show Steps p.tables e below (T7.setTop (mkF m 73 #[.val (.int p1), .val (.int (1 : Int32)), .val (.ref r2), .val (.ref r3), .val (.ref w4), .val (.ref w6)] [(.ref w4), (.ref r2)])) _
    refine Jvm.RoadKit.acmp (g := (mkF m 73 #[.val (.int p1), .val (.int (1 : Int32)), .val (.ref r2), .val (.ref r3), .val (.ref w4), .val (.ref w6)] [(.ref w4), (.ref r2)])) X7 hx rfl rfl rfl (pc0 := 73) (pc' := 76) (same := true) rfl (hb hby at_73) rfl (decide_eq_true (congrArg Value.ref ha73)) (by decide) (by decide) ?_
    show Steps p.tables e below (T7.setTop (mkF m 76 #[.val (.int p1), .val (.int (1 : Int32)), .val (.ref r2), .val (.ref r3), .val (.ref w4), .val (.ref w6)] [])) _
    refine XS.aloadN X7.here hx rfl (hb hby at_76) rfl rfl ?_
    show Steps p.tables e below (T7.setTop (mkF m 77 #[.val (.int p1), .val (.int (1 : Int32)), .val (.ref r2), .val (.ref r3), .val (.ref w4), .val (.ref w6)] [(.ref r3)])) _
    refine XS.aload X7.here hx rfl (hb hby at_77) rfl rfl ?_
    show Steps p.tables e below (T7.setTop (mkF m 79 #[.val (.int p1), .val (.int (1 : Int32)), .val (.ref r2), .val (.ref r3), .val (.ref w4), .val (.ref w6)] [(.ref w6), (.ref r3)])) _
    refine Jvm.RoadKit.acmp (g := (mkF m 79 #[.val (.int p1), .val (.int (1 : Int32)), .val (.ref r2), .val (.ref r3), .val (.ref w4), .val (.ref w6)] [(.ref w6), (.ref r3)])) X7 hx rfl rfl rfl (pc0 := 79) (pc' := 82) (same := true) rfl (hb hby at_79) rfl (decide_eq_true (congrArg Value.ref ha79)) (by decide) (by decide) ?_
    show Steps p.tables e below (T7.setTop (mkF m 82 #[.val (.int p1), .val (.int (1 : Int32)), .val (.ref r2), .val (.ref r3), .val (.ref w4), .val (.ref w6)] [])) _
    refine XS.aloadN X7.here hx rfl (hb hby at_82) rfl rfl ?_
    show Steps p.tables e below (T7.setTop (mkF m 83 #[.val (.int p1), .val (.int (1 : Int32)), .val (.ref r2), .val (.ref r3), .val (.ref w4), .val (.ref w6)] [(.ref r2)])) _
    refine XS.aloadN X7.here hx rfl (hb hby at_83) rfl rfl ?_
    show Steps p.tables e below (T7.setTop (mkF m 84 #[.val (.int p1), .val (.int (1 : Int32)), .val (.ref r2), .val (.ref r3), .val (.ref w4), .val (.ref w6)] [(.ref r3), (.ref r2)])) _
    refine Jvm.RoadKit.acmp (g := (mkF m 84 #[.val (.int p1), .val (.int (1 : Int32)), .val (.ref r2), .val (.ref r3), .val (.ref w4), .val (.ref w6)] [(.ref r3), (.ref r2)])) X7 hx rfl rfl rfl (pc0 := 84) (pc' := 87) (same := false) rfl (hb hby at_84) rfl (decide_eq_false fun q => ha84 (Value.ref.inj q)) (by decide) (by decide) ?_
    show Steps p.tables e below (T7.setTop (mkF m 87 #[.val (.int p1), .val (.int (1 : Int32)), .val (.ref r2), .val (.ref r3), .val (.ref w4), .val (.ref w6)] [])) _
    refine XS.aloadN X7.here hx rfl (hb hby at_87) rfl rfl ?_
    show Steps p.tables e below (T7.setTop (mkF m 88 #[.val (.int p1), .val (.int (1 : Int32)), .val (.ref r2), .val (.ref r3), .val (.ref w4), .val (.ref w6)] [(.ref r2)])) _
    refine st8.trans ?_
    show Steps p.tables e below (T8.setTop (mkF m 91 #[.val (.int p1), .val (.int (1 : Int32)), .val (.ref r2), .val (.ref r3), .val (.ref w4), .val (.ref w6)] [(.int r8)])) _
    refine XS.iloadN X8.here hx rfl (hb hby at_91) rfl ?_
    show Steps p.tables e below (T8.setTop (mkF m 92 #[.val (.int p1), .val (.int (1 : Int32)), .val (.ref r2), .val (.ref r3), .val (.ref w4), .val (.ref w6)] [(.int (1 : Int32)), (.int r8)])) _
    refine XS.icmpNo X8.here hx rfl (hb hby at_92) rfl (teq hx1).2 ?_
    show Steps p.tables e below (T8.setTop (mkF m 95 #[.val (.int p1), .val (.int (1 : Int32)), .val (.ref r2), .val (.ref r3), .val (.ref w4), .val (.ref w6)] [])) _
    refine XS.aloadN X8.here hx rfl (hb hby at_95) rfl rfl ?_
    show Steps p.tables e below (T8.setTop (mkF m 96 #[.val (.int p1), .val (.int (1 : Int32)), .val (.ref r2), .val (.ref r3), .val (.ref w4), .val (.ref w6)] [(.ref r3)])) _
    refine st9.trans ?_
    show Steps p.tables e below (T9.setTop (mkF m 99 #[.val (.int p1), .val (.int (1 : Int32)), .val (.ref r2), .val (.ref r3), .val (.ref w4), .val (.ref w6)] [(.int r9)])) _
    refine XS.iloadN X9.here hx rfl (hb hby at_99) rfl ?_
    show Steps p.tables e below (T9.setTop (mkF m 100 #[.val (.int p1), .val (.int (1 : Int32)), .val (.ref r2), .val (.ref r3), .val (.ref w4), .val (.ref w6)] [(.int (1 : Int32)), (.int r9)])) _
    refine XS.ifYes X9.here hx rfl (pc0 := 100) (pc' := 107) rfl (hb hby at_100) rfl ((if0 _ _).trans (feq hc100).2) (by decide) (by decide) ?_
    show Steps p.tables e below (T9.setTop (mkF m 107 #[.val (.int p1), .val (.int (1 : Int32)), .val (.ref r2), .val (.ref r3), .val (.ref w4), .val (.ref w6)] [(.int r9)])) _
    refine XS.iconst X9.here hx rfl (hb hby at_107) ?_
    show Steps p.tables e below (T9.setTop (mkF m 108 #[.val (.int p1), .val (.int (1 : Int32)), .val (.ref r2), .val (.ref r3), .val (.ref w4), .val (.ref w6)] [(.int (0 : Int32)), (.int r9)])) _
    refine XS.icmpNo X9.here hx rfl (hb hby at_108) rfl (teq hx2).2 ?_
    show Steps p.tables e below (T9.setTop (mkF m 111 #[.val (.int p1), .val (.int (1 : Int32)), .val (.ref r2), .val (.ref r3), .val (.ref w4), .val (.ref w6)] [])) _
    refine st10 _ ?_
    show Steps p.tables e below (T10.setTop (mkF m 114 #[.val (.int p1), .val (.int (1 : Int32)), .val (.ref r2), .val (.ref r3), .val (.ref w4), .val (.ref w6)] [(.ref w4)])) _
    refine st11.trans ?_
    show Steps p.tables e below (T11.setTop (mkF m 117 #[.val (.int p1), .val (.int (1 : Int32)), .val (.ref r2), .val (.ref r3), .val (.ref w4), .val (.ref w6)] [(.int r11)])) _
    refine XS.ifNo X11.here hx rfl (hb hby at_117) rfl ((if0 _ _).trans (feq hx3).1) ?_
    show Steps p.tables e below (T11.setTop (mkF m 120 #[.val (.int p1), .val (.int (1 : Int32)), .val (.ref r2), .val (.ref r3), .val (.ref w4), .val (.ref w6)] [])) _
    refine st12 _ ?_
    show Steps p.tables e below (T12.setTop (mkF m 123 #[.val (.int p1), .val (.int (1 : Int32)), .val (.ref r2), .val (.ref r3), .val (.ref w4), .val (.ref w6)] [(.ref w6)])) _
    refine st13.trans ?_
    show Steps p.tables e below (T13.setTop (mkF m 126 #[.val (.int p1), .val (.int (1 : Int32)), .val (.ref r2), .val (.ref r3), .val (.ref w4), .val (.ref w6)] [(.int r13)])) _
    refine XS.ifNo X13.here hx rfl (hb hby at_126) rfl ((if0 _ _).trans (teq hx4).2) ?_
    show Steps p.tables e below (T13.setTop (mkF m 129 #[.val (.int p1), .val (.int (1 : Int32)), .val (.ref r2), .val (.ref r3), .val (.ref w4), .val (.ref w6)] [])) _
    refine XS.iconst X13.here hx rfl (hb hby at_129) ?_
    show Steps p.tables e below (T13.setTop (mkF m 130 #[.val (.int p1), .val (.int (1 : Int32)), .val (.ref r2), .val (.ref r3), .val (.ref w4), .val (.ref w6)] [(.int (1 : Int32))])) _
    refine XS.goto X13.here hx rfl (pc0 := 130) (pc' := 134) rfl (hb hby at_130) (by decide) (by decide) ?_
    show Steps p.tables e below (T13.setTop (mkF m 134 #[.val (.int p1), .val (.int (1 : Int32)), .val (.ref r2), .val (.ref r3), .val (.ref w4), .val (.ref w6)] [(.int (1 : Int32))])) _
    exact retN X13 hx (t := .boolean) Bd.returns (by simp) (hb hby at_134) hr
  · show Q0_ftftfffffftfff Z p1 w4 w6 h0 n0 _ T13.heap _
    exact ⟨rfl, N13⟩
def Q0_tfftttffffffff (Z : State) (p1 : Int32) (w4 : Addr) (w6 : Addr) (h0 : Heap) (n0 : Nat) (v : Option Value) (h : Heap) (L : List Loc) : Prop := v = some (.int (1 : Int32)) ∧ Fr n0 L
set_option maxRecDepth 65536 in
set_option maxHeartbeats 40000000 in
theorem rm0_tfftttffffffff (l : Launch) (Z : State) (a0 : Array Value) (hw : ∀ d ∈ tables_1, d.before a0 Z = true) (ws : List Jvm.Cond) (p1 : Int32) (w4 : Addr) (w6 : Addr) (r2 : Addr) (r3 : Addr) (r8 : Int32) (r9 : Int32) (r11 : Int32) (r13 : Int32) (h0 : Heap) (n0 : Nat) (Z0 : n0 ≤ h0.size) (S_FALSE : Sta Z h0 "com/example/hakiki/hakiki/semantics/Value$Bool" "FALSE" "Lcom/example/hakiki/hakiki/semantics/Value$Bool;" (.ref w4)) (S_TRUE : Sta Z h0 "com/example/hakiki/hakiki/semantics/Value$Bool" "TRUE" "Lcom/example/hakiki/hakiki/semantics/Value$Bool;" (.ref w6)) (E_w6 : Exa Z h0 w6 "com/example/hakiki/hakiki/semantics/Value$Bool") (E_w4 : Exa Z h0 w4 "com/example/hakiki/hakiki/semantics/Value$Bool") (hc3 : (p1 &&& (1 : Int32)) = (0 : Int32)) (ha73 : r2 = w4) (ha79 : r3 = w6) (ha84 : ¬ (r2 = r3)) (hP2 : P1 Z h0 (0 : Int32) (some (.ref r2))) (hP3 : P1 Z h0 (1 : Int32) (some (.ref r3))) (E_r2 : Exa Z h0 r2 "com/example/hakiki/hakiki/semantics/Value$Bool") (hP8 : P2 Z h0 r2 (some (.int r8))) (E_r3 : Exa Z h0 r3 "com/example/hakiki/hakiki/semantics/Value$Bool") (hP9 : P2 Z h0 r3 (some (.int r9))) (hP11 : P2 Z h0 w6 (some (.int r11))) (hP13 : P2 Z h0 w4 (some (.int r13))) (hx1 : r8 = (0 : Int32)) (hx2 : r9 = (1 : Int32)) (hx3 : ¬ (r11 = (0 : Int32))) (hx4 : r13 = (0 : Int32)) :
    MetFree l x (head1 (Jvm.Cond.code x code maxLocals ret :: ws) room_1) (fun a U => a = #[(.int p1)] ∧ Z.Warmed39 U.vm ∧ U.heap = h0) (fun _ _ _ _ _ => True) (fun _ U o U' => ∃ v L, o = .returned v ∧ Q0_tfftttffffffff Z p1 w4 w6 h0 n0 v U'.heap L ∧ FrameEnd U o U' L room_1.cells room_1.slots) := by
  refine MetFree.of_bodySF (plainFor_of_name pn_0) hisR ?_
  intro p e s m args below meth c s₁ Bd hml0 hP hK
  obtain ⟨rfl, hZ, hh⟩ := hP
  have hx := Bd.exec
  have hby := Bd.bytes
  have hml : c.maxLocals = 6 := hml0
  have hown : s.vm.findClass "com/example/hakiki/hakiki/semantics/BoolOfPinLaw" = some m.cls := findClass_of_methodNamed Bd.named
  have hnm := (name_of_methodNamed Bd.named Bd.method).1
  have X0 : Stand p l e room_1 s m #[(.int p1)] below meth c s₁ [] 0 0 := Stand.of_body Bd
  have e0 : s₁.heap = h0 := by rw [← hh, Bd.state]; rfl
  have N0 := Fr.nil n0
  have pre0 : ∀ t, Steps p.tables e below (s₁.setTop (mkF m 0 #[.val (.int p1), .unset, .unset, .unset, .unset, .unset] [])) t → Steps p.tables e below (s₁.setTop (entryFrame m #[(.int p1)] maxLocals)) t := fun t k => castTop (ef_0 m p1) k
  -- 3. LAWS
  -- pc 13: com/example/hakiki/hakiki/semantics/Value$Bool.of by its contract rm1
  obtain ⟨_, _, ⟨T2, L2, k2, n2⟩, -, X2, ⟨Lc2, hQ2, l2, y2, z2⟩, st2⟩ := Jvm.LawKit.callS X0 hx (y := (⟨"com/example/hakiki/hakiki/semantics/Value$Bool", "of", "(Z)Lcom/example/hakiki/hakiki/semantics/Value$Bool;"⟩ : MethodName)) hown (mvT hZ (hw _ (List.mem_of_getElem? (i := 0) rfl))) (mvT hZ (hw _ (List.mem_of_getElem? (i := 1) rfl))) (mvT hZ (hw _ (List.mem_of_getElem? (i := 2) rfl))) (mvT hZ (hw _ (List.mem_of_getElem? (i := 3) rfl))) (by decide) (backOf (W := 0) (own_1 l Z a0 hw [] (0 : Int32) (some (.ref r2)) h0 n0 Z0 hP2) hZ (hw _ (List.mem_of_getElem? (i := 3) rfl)) (hw _ (List.mem_of_getElem? (i := 2) rfl)) (by decide) (by decide)) (g := (mkF m 13 #[.val (.int p1), .val (.int (0 : Int32)), .unset, .unset, .unset, .unset] [(.int (0 : Int32))])) rfl (by rw [hml]; rfl) (argsL := [(.int (0 : Int32))]) (rest := []) (lenOf pd_0_0 rfl) rfl (by show 2 * 0 + _ ≤ _; exact Nat.le_of_eq rfl) (hb hby at_13) (fun _ _ => ⟨rfl, e0, (by decide : 0 + 0 ≤ _), (by decide : 0 + 0 ≤ _)⟩)
  dsimp only [Pt.U, Pt.locs, Pt.cells, Pt.slots] at X2 l2 y2 z2 st2 hQ2
  subst l2 y2 z2
  obtain ⟨rfl, N2q, e2⟩ := hQ2      -- what it returned, that it wrote nothing old, and the rest of your Q1
  have N2 := Fr.app N0 N2q
  -- pc 26: com/example/hakiki/hakiki/semantics/Value$Bool.of by its contract rm1
  obtain ⟨_, _, ⟨T3, L3, k3, n3⟩, -, X3, ⟨Lc3, hQ3, l3, y3, z3⟩, st3⟩ := Jvm.LawKit.callS X2 hx (y := (⟨"com/example/hakiki/hakiki/semantics/Value$Bool", "of", "(Z)Lcom/example/hakiki/hakiki/semantics/Value$Bool;"⟩ : MethodName)) hown (mvT hZ (hw _ (List.mem_of_getElem? (i := 0) rfl))) (mvT hZ (hw _ (List.mem_of_getElem? (i := 1) rfl))) (mvT hZ (hw _ (List.mem_of_getElem? (i := 2) rfl))) (mvT hZ (hw _ (List.mem_of_getElem? (i := 3) rfl))) (by decide) (backOf (W := 0) (own_1 l Z a0 hw [] (1 : Int32) (some (.ref r3)) h0 n0 Z0 hP3) hZ (hw _ (List.mem_of_getElem? (i := 3) rfl)) (hw _ (List.mem_of_getElem? (i := 2) rfl)) (by decide) (by decide)) (g := (mkF m 26 #[.val (.int p1), .val (.int (0 : Int32)), .val (.ref r2), .unset, .unset, .unset] [(.int (1 : Int32))])) rfl (by rw [hml]; rfl) (argsL := [(.int (1 : Int32))]) (rest := []) (lenOf pd_0_0 rfl) rfl (by show 2 * 0 + _ ≤ _; exact Nat.le_of_eq rfl) (hb hby at_26) (fun _ _ => ⟨rfl, e2, (by decide : 0 + 0 ≤ _), (by decide : 0 + 0 ≤ _)⟩)
  dsimp only [Pt.U, Pt.locs, Pt.cells, Pt.slots] at X3 l3 y3 z3 st3 hQ3
  subst l3 y3 z3
  obtain ⟨rfl, N3q, e3⟩ := hQ3      -- what it returned, that it wrote nothing old, and the rest of your Q1
  have N3 := Fr.app N2 N3q
  -- ✋ yours: S_FALSE must speak of T3.heap here (carried as the other facts are)
  obtain ⟨T5, X5, e5, st5⟩ := getS2 X3 hx hZ hown (host := "") (Or.inl (hw _ (List.mem_of_getElem? (i := 8) rfl))) Via.refl e3 S_FALSE (g := (mkF m 50 #[.val (.int p1), .val (.int (0 : Int32)), .val (.ref r2), .val (.ref r3), .unset, .unset] [])) rfl (hb hby at_50)
  -- ✋ yours: S_TRUE must speak of T3.heap here (carried as the other facts are)
  obtain ⟨T7, X7, e7, st7⟩ := getS2 X5 hx hZ hown (host := "") (Or.inl (hw _ (List.mem_of_getElem? (i := 9) rfl))) Via.refl e5 S_TRUE (g := (mkF m 65 #[.val (.int p1), .val (.int (0 : Int32)), .val (.ref r2), .val (.ref r3), .val (.ref w4), .unset] [])) rfl (hb hby at_65)
  -- pc 88: com/example/hakiki/hakiki/semantics/Value$Bool.holds by the contract of the body that the receiver's class selects, rm2
  obtain ⟨cq8, kq8, q8a, q8b, q8c⟩ := isOf hZ e7 E_r2
  obtain ⟨_, _, ⟨T8, L8, k8, n8⟩, -, X8, ⟨Lc8, hQ8, l8, y8, z8⟩, st8⟩ := X7.virtualBack hx (y := (⟨"com/example/hakiki/hakiki/semantics/Value$Bool", "holds", "()Z"⟩ : MethodName)) (z := (⟨"com/example/hakiki/hakiki/semantics/Value$Bool", "holds", "()Z"⟩ : MethodName)) hown (mvT hZ (hw _ (List.mem_of_getElem? (i := 10) rfl))) (mvT hZ (hw _ (List.mem_of_getElem? (i := 11) rfl))) (notFace_of_selects (args := #[]) (mvT hZ (hw _ (List.mem_of_getElem? (i := 13) rfl)))) (mvT hZ (hw _ (List.mem_of_getElem? (i := 13) rfl))) (mvT hZ (hw _ (List.mem_of_getElem? (i := 12) rfl))) (by decide) (backOf (W := 0) (own_2 l Z a0 hw [] r2 (some (.int r8)) h0 n0 Z0 hP8) hZ (hw _ (List.mem_of_getElem? (i := 14) rfl)) (hw _ (List.mem_of_getElem? (i := 2) rfl)) (by decide) (by decide)) q8a q8c (g := (mkF m 88 #[.val (.int p1), .val (.int (0 : Int32)), .val (.ref r2), .val (.ref r3), .val (.ref w4), .val (.ref w6)] [(.ref r2)])) rfl (by rw [hml]; rfl) (Steps.refl _) (argsL := []) (rest := []) (lenOf pd_0_1 rfl) rfl (by show 2 * 0 + _ ≤ _; exact Nat.le_of_eq rfl) (hb hby at_88) (fun _ _ => ⟨rfl, e7, (by decide : 0 + 0 ≤ _), (by decide : 0 + 0 ≤ _)⟩)
  dsimp only [Pt.U, Pt.locs, Pt.cells, Pt.slots] at X8 l8 y8 z8 st8 hQ8
  subst l8 y8 z8
  obtain ⟨rfl, N8q, e8⟩ := hQ8      -- what it returned, that it wrote nothing old, and the rest of your Q2
  have N8 := Fr.app N3 N8q
  -- pc 96: com/example/hakiki/hakiki/semantics/Value$Bool.holds by the contract of the body that the receiver's class selects, rm2
  obtain ⟨cq9, kq9, q9a, q9b, q9c⟩ := isOf hZ e8 E_r3
  obtain ⟨_, _, ⟨T9, L9, k9, n9⟩, -, X9, ⟨Lc9, hQ9, l9, y9, z9⟩, st9⟩ := X8.virtualBack hx (y := (⟨"com/example/hakiki/hakiki/semantics/Value$Bool", "holds", "()Z"⟩ : MethodName)) (z := (⟨"com/example/hakiki/hakiki/semantics/Value$Bool", "holds", "()Z"⟩ : MethodName)) hown (mvT hZ (hw _ (List.mem_of_getElem? (i := 10) rfl))) (mvT hZ (hw _ (List.mem_of_getElem? (i := 11) rfl))) (notFace_of_selects (args := #[]) (mvT hZ (hw _ (List.mem_of_getElem? (i := 13) rfl)))) (mvT hZ (hw _ (List.mem_of_getElem? (i := 13) rfl))) (mvT hZ (hw _ (List.mem_of_getElem? (i := 12) rfl))) (by decide) (backOf (W := 0) (own_2 l Z a0 hw [] r3 (some (.int r9)) h0 n0 Z0 hP9) hZ (hw _ (List.mem_of_getElem? (i := 14) rfl)) (hw _ (List.mem_of_getElem? (i := 2) rfl)) (by decide) (by decide)) q9a q9c (g := (mkF m 96 #[.val (.int p1), .val (.int (0 : Int32)), .val (.ref r2), .val (.ref r3), .val (.ref w4), .val (.ref w6)] [(.ref r3)])) rfl (by rw [hml]; rfl) (Steps.refl _) (argsL := []) (rest := []) (lenOf pd_0_1 rfl) rfl (by show 2 * 0 + _ ≤ _; exact Nat.le_of_eq rfl) (hb hby at_96) (fun _ _ => ⟨rfl, e8, (by decide : 0 + 0 ≤ _), (by decide : 0 + 0 ≤ _)⟩)
  dsimp only [Pt.U, Pt.locs, Pt.cells, Pt.slots] at X9 l9 y9 z9 st9 hQ9
  subst l9 y9 z9
  obtain ⟨rfl, N9q, e9⟩ := hQ9      -- what it returned, that it wrote nothing old, and the rest of your Q2
  have N9 := Fr.app N8 N9q
  -- ✋ yours: S_TRUE must speak of T9.heap here (carried as the other facts are)
  obtain ⟨T10, X10, e10, st10⟩ := getS2 X9 hx hZ hown (host := "") (Or.inl (hw _ (List.mem_of_getElem? (i := 9) rfl))) Via.refl e9 S_TRUE (g := (mkF m 111 #[.val (.int p1), .val (.int (0 : Int32)), .val (.ref r2), .val (.ref r3), .val (.ref w4), .val (.ref w6)] [])) rfl (hb hby at_111)
  -- pc 114: com/example/hakiki/hakiki/semantics/Value$Bool.holds by the contract of the body that the receiver's class selects, rm2
  obtain ⟨cq11, kq11, q11a, q11b, q11c⟩ := isOf hZ e10 E_w6
  obtain ⟨_, _, ⟨T11, L11, k11, n11⟩, -, X11, ⟨Lc11, hQ11, l11, y11, z11⟩, st11⟩ := X10.virtualBack hx (y := (⟨"com/example/hakiki/hakiki/semantics/Value$Bool", "holds", "()Z"⟩ : MethodName)) (z := (⟨"com/example/hakiki/hakiki/semantics/Value$Bool", "holds", "()Z"⟩ : MethodName)) hown (mvT hZ (hw _ (List.mem_of_getElem? (i := 10) rfl))) (mvT hZ (hw _ (List.mem_of_getElem? (i := 11) rfl))) (notFace_of_selects (args := #[]) (mvT hZ (hw _ (List.mem_of_getElem? (i := 13) rfl)))) (mvT hZ (hw _ (List.mem_of_getElem? (i := 13) rfl))) (mvT hZ (hw _ (List.mem_of_getElem? (i := 12) rfl))) (by decide) (backOf (W := 0) (own_2 l Z a0 hw [] w6 (some (.int r11)) h0 n0 Z0 hP11) hZ (hw _ (List.mem_of_getElem? (i := 14) rfl)) (hw _ (List.mem_of_getElem? (i := 2) rfl)) (by decide) (by decide)) q11a q11c (g := (mkF m 114 #[.val (.int p1), .val (.int (0 : Int32)), .val (.ref r2), .val (.ref r3), .val (.ref w4), .val (.ref w6)] [(.ref w6)])) rfl (by rw [hml]; rfl) (Steps.refl _) (argsL := []) (rest := []) (lenOf pd_0_1 rfl) rfl (by show 2 * 0 + _ ≤ _; exact Nat.le_of_eq rfl) (hb hby at_114) (fun _ _ => ⟨rfl, e10, (by decide : 0 + 0 ≤ _), (by decide : 0 + 0 ≤ _)⟩)
  dsimp only [Pt.U, Pt.locs, Pt.cells, Pt.slots] at X11 l11 y11 z11 st11 hQ11
  subst l11 y11 z11
  obtain ⟨rfl, N11q, e11⟩ := hQ11      -- what it returned, that it wrote nothing old, and the rest of your Q2
  have N11 := Fr.app N9 N11q
  -- ✋ yours: S_FALSE must speak of T11.heap here (carried as the other facts are)
  obtain ⟨T12, X12, e12, st12⟩ := getS2 X11 hx hZ hown (host := "") (Or.inl (hw _ (List.mem_of_getElem? (i := 8) rfl))) Via.refl e11 S_FALSE (g := (mkF m 120 #[.val (.int p1), .val (.int (0 : Int32)), .val (.ref r2), .val (.ref r3), .val (.ref w4), .val (.ref w6)] [])) rfl (hb hby at_120)
  -- pc 123: com/example/hakiki/hakiki/semantics/Value$Bool.holds by the contract of the body that the receiver's class selects, rm2
  obtain ⟨cq13, kq13, q13a, q13b, q13c⟩ := isOf hZ e12 E_w4
  obtain ⟨_, _, ⟨T13, L13, k13, n13⟩, -, X13, ⟨Lc13, hQ13, l13, y13, z13⟩, st13⟩ := X12.virtualBack hx (y := (⟨"com/example/hakiki/hakiki/semantics/Value$Bool", "holds", "()Z"⟩ : MethodName)) (z := (⟨"com/example/hakiki/hakiki/semantics/Value$Bool", "holds", "()Z"⟩ : MethodName)) hown (mvT hZ (hw _ (List.mem_of_getElem? (i := 10) rfl))) (mvT hZ (hw _ (List.mem_of_getElem? (i := 11) rfl))) (notFace_of_selects (args := #[]) (mvT hZ (hw _ (List.mem_of_getElem? (i := 13) rfl)))) (mvT hZ (hw _ (List.mem_of_getElem? (i := 13) rfl))) (mvT hZ (hw _ (List.mem_of_getElem? (i := 12) rfl))) (by decide) (backOf (W := 0) (own_2 l Z a0 hw [] w4 (some (.int r13)) h0 n0 Z0 hP13) hZ (hw _ (List.mem_of_getElem? (i := 14) rfl)) (hw _ (List.mem_of_getElem? (i := 2) rfl)) (by decide) (by decide)) q13a q13c (g := (mkF m 123 #[.val (.int p1), .val (.int (0 : Int32)), .val (.ref r2), .val (.ref r3), .val (.ref w4), .val (.ref w6)] [(.ref w4)])) rfl (by rw [hml]; rfl) (Steps.refl _) (argsL := []) (rest := []) (lenOf pd_0_1 rfl) rfl (by show 2 * 0 + _ ≤ _; exact Nat.le_of_eq rfl) (hb hby at_123) (fun _ _ => ⟨rfl, e12, (by decide : 0 + 0 ≤ _), (by decide : 0 + 0 ≤ _)⟩)
  dsimp only [Pt.U, Pt.locs, Pt.cells, Pt.slots] at X13 l13 y13 z13 st13 hQ13
  subst l13 y13 z13
  obtain ⟨rfl, N13q, e13⟩ := hQ13      -- what it returned, that it wrote nothing old, and the rest of your Q2
  have N13 := Fr.app N11 N13q
  obtain ⟨fs, hr, hrun, hended, hW, hsame⟩ := X13.leave (v := some (.int (1 : Int32))) (fun h => by rw [Bd.returns] at h; cases h)
  refine ⟨_, _, pre0 _ ?_, hrun, hended, _, _, rfl, ?_, ⟨_, rfl⟩, hW, hsame.mono (by decide) (by decide)⟩
  -- 4. STEPS
  · show Steps p.tables e below (s₁.setTop (mkF m 0 #[.val (.int p1), .unset, .unset, .unset, .unset, .unset] [])) _
    refine XS.iloadN X0.here hx rfl (hb hby at_0) rfl ?_
    show Steps p.tables e below (s₁.setTop (mkF m 1 #[.val (.int p1), .unset, .unset, .unset, .unset, .unset] [(.int p1)])) _
    refine XS.iconst X0.here hx rfl (hb hby at_1) ?_
    show Steps p.tables e below (s₁.setTop (mkF m 2 #[.val (.int p1), .unset, .unset, .unset, .unset, .unset] [(.int (1 : Int32)), (.int p1)])) _
    refine XS.iand X0.here hx rfl (hb hby at_2) rfl ?_
    show Steps p.tables e below (s₁.setTop (mkF m 3 #[.val (.int p1), .unset, .unset, .unset, .unset, .unset] [(.int (p1 &&& (1 : Int32)))])) _
    refine XS.ifYes X0.here hx rfl (pc0 := 3) (pc' := 10) rfl (hb hby at_3) rfl ((if0 _ _).trans (teq hc3).1) (by decide) (by decide) ?_
    show Steps p.tables e below (s₁.setTop (mkF m 10 #[.val (.int p1), .unset, .unset, .unset, .unset, .unset] [])) _
    refine XS.iconst X0.here hx rfl (hb hby at_10) ?_
    show Steps p.tables e below (s₁.setTop (mkF m 11 #[.val (.int p1), .unset, .unset, .unset, .unset, .unset] [(.int (0 : Int32))])) _
    refine XS.istoreN X0.here hx rfl (hb hby at_11) rfl (l' := #[.val (.int p1), .val (.int (0 : Int32)), .unset, .unset, .unset, .unset]) rfl ?_
    show Steps p.tables e below (s₁.setTop (mkF m 12 #[.val (.int p1), .val (.int (0 : Int32)), .unset, .unset, .unset, .unset] [])) _
    refine XS.iloadN X0.here hx rfl (hb hby at_12) rfl ?_
    show Steps p.tables e below (s₁.setTop (mkF m 13 #[.val (.int p1), .val (.int (0 : Int32)), .unset, .unset, .unset, .unset] [(.int (0 : Int32))])) _
    refine st2 _ ?_
    show Steps p.tables e below (T2.setTop (mkF m 16 #[.val (.int p1), .val (.int (0 : Int32)), .unset, .unset, .unset, .unset] [(.ref r2)])) _
    refine XS.astoreN X2.here hx rfl (hb hby at_16) rfl rfl (l' := #[.val (.int p1), .val (.int (0 : Int32)), .val (.ref r2), .unset, .unset, .unset]) rfl ?_
    show Steps p.tables e below (T2.setTop (mkF m 17 #[.val (.int p1), .val (.int (0 : Int32)), .val (.ref r2), .unset, .unset, .unset] [])) _
    refine XS.iloadN X2.here hx rfl (hb hby at_17) rfl ?_
    show Steps p.tables e below (T2.setTop (mkF m 18 #[.val (.int p1), .val (.int (0 : Int32)), .val (.ref r2), .unset, .unset, .unset] [(.int (0 : Int32))])) _
    refine XS.ifNo X2.here hx rfl (hb hby at_18) rfl ((if0 _ _).trans (teq (rfl : (0 : Int32) = (0 : Int32))).2) ?_
    show Steps p.tables e below (T2.setTop (mkF m 21 #[.val (.int p1), .val (.int (0 : Int32)), .val (.ref r2), .unset, .unset, .unset] [])) _
    refine XS.iconst X2.here hx rfl (hb hby at_21) ?_
    show Steps p.tables e below (T2.setTop (mkF m 22 #[.val (.int p1), .val (.int (0 : Int32)), .val (.ref r2), .unset, .unset, .unset] [(.int (1 : Int32))])) _
    refine XS.goto X2.here hx rfl (pc0 := 22) (pc' := 26) rfl (hb hby at_22) (by decide) (by decide) ?_
    show Steps p.tables e below (T2.setTop (mkF m 26 #[.val (.int p1), .val (.int (0 : Int32)), .val (.ref r2), .unset, .unset, .unset] [(.int (1 : Int32))])) _
    refine st3 _ ?_
    show Steps p.tables e below (T3.setTop (mkF m 29 #[.val (.int p1), .val (.int (0 : Int32)), .val (.ref r2), .unset, .unset, .unset] [(.ref r3)])) _
    refine XS.astoreN X3.here hx rfl (hb hby at_29) rfl rfl (l' := #[.val (.int p1), .val (.int (0 : Int32)), .val (.ref r2), .val (.ref r3), .unset, .unset]) rfl ?_
    show Steps p.tables e below (T3.setTop (mkF m 30 #[.val (.int p1), .val (.int (0 : Int32)), .val (.ref r2), .val (.ref r3), .unset, .unset] [])) _
    refine XS.aloadN X3.here hx rfl (hb hby at_30) rfl rfl ?_
    show Steps p.tables e below (T3.setTop (mkF m 31 #[.val (.int p1), .val (.int (0 : Int32)), .val (.ref r2), .val (.ref r3), .unset, .unset] [(.ref r2)])) _
    refine XS.ifnullNo X3.here hx rfl (hb hby at_31) rfl ?_
    show Steps p.tables e below (T3.setTop (mkF m 34 #[.val (.int p1), .val (.int (0 : Int32)), .val (.ref r2), .val (.ref r3), .unset, .unset] [])) _
    refine XS.aloadN X3.here hx rfl (hb hby at_34) rfl rfl ?_
    show Steps p.tables e below (T3.setTop (mkF m 35 #[.val (.int p1), .val (.int (0 : Int32)), .val (.ref r2), .val (.ref r3), .unset, .unset] [(.ref r3)])) _
    refine XS.ifnonnullYes X3.here hx rfl (pc0 := 35) (pc' := 40) rfl (hb hby at_35) rfl (by decide) (by decide) ?_
    show Steps p.tables e below (T3.setTop (mkF m 40 #[.val (.int p1), .val (.int (0 : Int32)), .val (.ref r2), .val (.ref r3), .unset, .unset] [])) _
    refine XS.iloadN X3.here hx rfl (hb hby at_40) rfl ?_
    show Steps p.tables e below (T3.setTop (mkF m 41 #[.val (.int p1), .val (.int (0 : Int32)), .val (.ref r2), .val (.ref r3), .unset, .unset] [(.int (0 : Int32))])) _
    refine XS.ifYes X3.here hx rfl (pc0 := 41) (pc' := 50) rfl (hb hby at_41) rfl ((if0 _ _).trans (teq (rfl : (0 : Int32) = (0 : Int32))).1) (by decide) (by decide) ?_
    show Steps p.tables e below (T3.setTop (mkF m 50 #[.val (.int p1), .val (.int (0 : Int32)), .val (.ref r2), .val (.ref r3), .unset, .unset] [])) _
    refine st5 _ ?_
    show Steps p.tables e below (T5.setTop (mkF m 53 #[.val (.int p1), .val (.int (0 : Int32)), .val (.ref r2), .val (.ref r3), .unset, .unset] [(.ref w4)])) _
    refine XS.astore X5.here hx rfl (hb hby at_53) rfl rfl (l' := #[.val (.int p1), .val (.int (0 : Int32)), .val (.ref r2), .val (.ref r3), .val (.ref w4), .unset]) rfl ?_
    show Steps p.tables e below (T5.setTop (mkF m 55 #[.val (.int p1), .val (.int (0 : Int32)), .val (.ref r2), .val (.ref r3), .val (.ref w4), .unset] [])) _
    refine XS.iloadN X5.here hx rfl (hb hby at_55) rfl ?_
    show Steps p.tables e below (T5.setTop (mkF m 56 #[.val (.int p1), .val (.int (0 : Int32)), .val (.ref r2), .val (.ref r3), .val (.ref w4), .unset] [(.int (0 : Int32))])) _
    refine XS.ifYes X5.here hx rfl (pc0 := 56) (pc' := 65) rfl (hb hby at_56) rfl ((if0 _ _).trans (teq (rfl : (0 : Int32) = (0 : Int32))).1) (by decide) (by decide) ?_
    show Steps p.tables e below (T5.setTop (mkF m 65 #[.val (.int p1), .val (.int (0 : Int32)), .val (.ref r2), .val (.ref r3), .val (.ref w4), .unset] [])) _
    refine st7 _ ?_
    show Steps p.tables e below (T7.setTop (mkF m 68 #[.val (.int p1), .val (.int (0 : Int32)), .val (.ref r2), .val (.ref r3), .val (.ref w4), .unset] [(.ref w6)])) _
    refine XS.astore X7.here hx rfl (hb hby at_68) rfl rfl (l' := #[.val (.int p1), .val (.int (0 : Int32)), .val (.ref r2), .val (.ref r3), .val (.ref w4), .val (.ref w6)]) rfl ?_
    show Steps p.tables e below (T7.setTop (mkF m 70 #[.val (.int p1), .val (.int (0 : Int32)), .val (.ref r2), .val (.ref r3), .val (.ref w4), .val (.ref w6)] [])) _
    refine XS.aloadN X7.here hx rfl (hb hby at_70) rfl rfl ?_
    show Steps p.tables e below (T7.setTop (mkF m 71 #[.val (.int p1), .val (.int (0 : Int32)), .val (.ref r2), .val (.ref r3), .val (.ref w4), .val (.ref w6)] [(.ref r2)])) _
    refine XS.aload X7.here hx rfl (hb hby at_71) rfl rfl ?_
    show Steps p.tables e below (T7.setTop (mkF m 73 #[.val (.int p1), .val (.int (0 : Int32)), .val (.ref r2), .val (.ref r3), .val (.ref w4), .val (.ref w6)] [(.ref w4), (.ref r2)])) _
    refine Jvm.RoadKit.acmp (g := (mkF m 73 #[.val (.int p1), .val (.int (0 : Int32)), .val (.ref r2), .val (.ref r3), .val (.ref w4), .val (.ref w6)] [(.ref w4), (.ref r2)])) X7 hx rfl rfl rfl (pc0 := 73) (pc' := 76) (same := true) rfl (hb hby at_73) rfl (decide_eq_true (congrArg Value.ref ha73)) (by decide) (by decide) ?_
    show Steps p.tables e below (T7.setTop (mkF m 76 #[.val (.int p1), .val (.int (0 : Int32)), .val (.ref r2), .val (.ref r3), .val (.ref w4), .val (.ref w6)] [])) _
    refine XS.aloadN X7.here hx rfl (hb hby at_76) rfl rfl ?_
    show Steps p.tables e below (T7.setTop (mkF m 77 #[.val (.int p1), .val (.int (0 : Int32)), .val (.ref r2), .val (.ref r3), .val (.ref w4), .val (.ref w6)] [(.ref r3)])) _
    refine XS.aload X7.here hx rfl (hb hby at_77) rfl rfl ?_
    show Steps p.tables e below (T7.setTop (mkF m 79 #[.val (.int p1), .val (.int (0 : Int32)), .val (.ref r2), .val (.ref r3), .val (.ref w4), .val (.ref w6)] [(.ref w6), (.ref r3)])) _
    refine Jvm.RoadKit.acmp (g := (mkF m 79 #[.val (.int p1), .val (.int (0 : Int32)), .val (.ref r2), .val (.ref r3), .val (.ref w4), .val (.ref w6)] [(.ref w6), (.ref r3)])) X7 hx rfl rfl rfl (pc0 := 79) (pc' := 82) (same := true) rfl (hb hby at_79) rfl (decide_eq_true (congrArg Value.ref ha79)) (by decide) (by decide) ?_
    show Steps p.tables e below (T7.setTop (mkF m 82 #[.val (.int p1), .val (.int (0 : Int32)), .val (.ref r2), .val (.ref r3), .val (.ref w4), .val (.ref w6)] [])) _
    refine XS.aloadN X7.here hx rfl (hb hby at_82) rfl rfl ?_
    show Steps p.tables e below (T7.setTop (mkF m 83 #[.val (.int p1), .val (.int (0 : Int32)), .val (.ref r2), .val (.ref r3), .val (.ref w4), .val (.ref w6)] [(.ref r2)])) _
    refine XS.aloadN X7.here hx rfl (hb hby at_83) rfl rfl ?_
    show Steps p.tables e below (T7.setTop (mkF m 84 #[.val (.int p1), .val (.int (0 : Int32)), .val (.ref r2), .val (.ref r3), .val (.ref w4), .val (.ref w6)] [(.ref r3), (.ref r2)])) _
    refine Jvm.RoadKit.acmp (g := (mkF m 84 #[.val (.int p1), .val (.int (0 : Int32)), .val (.ref r2), .val (.ref r3), .val (.ref w4), .val (.ref w6)] [(.ref r3), (.ref r2)])) X7 hx rfl rfl rfl (pc0 := 84) (pc' := 87) (same := false) rfl (hb hby at_84) rfl (decide_eq_false fun q => ha84 (Value.ref.inj q)) (by decide) (by decide) ?_
    show Steps p.tables e below (T7.setTop (mkF m 87 #[.val (.int p1), .val (.int (0 : Int32)), .val (.ref r2), .val (.ref r3), .val (.ref w4), .val (.ref w6)] [])) _
    refine XS.aloadN X7.here hx rfl (hb hby at_87) rfl rfl ?_
    show Steps p.tables e below (T7.setTop (mkF m 88 #[.val (.int p1), .val (.int (0 : Int32)), .val (.ref r2), .val (.ref r3), .val (.ref w4), .val (.ref w6)] [(.ref r2)])) _
    refine st8.trans ?_
    show Steps p.tables e below (T8.setTop (mkF m 91 #[.val (.int p1), .val (.int (0 : Int32)), .val (.ref r2), .val (.ref r3), .val (.ref w4), .val (.ref w6)] [(.int r8)])) _
    refine XS.iloadN X8.here hx rfl (hb hby at_91) rfl ?_
    show Steps p.tables e below (T8.setTop (mkF m 92 #[.val (.int p1), .val (.int (0 : Int32)), .val (.ref r2), .val (.ref r3), .val (.ref w4), .val (.ref w6)] [(.int (0 : Int32)), (.int r8)])) _
    refine XS.icmpNo X8.here hx rfl (hb hby at_92) rfl (teq hx1).2 ?_
    show Steps p.tables e below (T8.setTop (mkF m 95 #[.val (.int p1), .val (.int (0 : Int32)), .val (.ref r2), .val (.ref r3), .val (.ref w4), .val (.ref w6)] [])) _
    refine XS.aloadN X8.here hx rfl (hb hby at_95) rfl rfl ?_
    show Steps p.tables e below (T8.setTop (mkF m 96 #[.val (.int p1), .val (.int (0 : Int32)), .val (.ref r2), .val (.ref r3), .val (.ref w4), .val (.ref w6)] [(.ref r3)])) _
    refine st9.trans ?_
    show Steps p.tables e below (T9.setTop (mkF m 99 #[.val (.int p1), .val (.int (0 : Int32)), .val (.ref r2), .val (.ref r3), .val (.ref w4), .val (.ref w6)] [(.int r9)])) _
    refine XS.iloadN X9.here hx rfl (hb hby at_99) rfl ?_
    show Steps p.tables e below (T9.setTop (mkF m 100 #[.val (.int p1), .val (.int (0 : Int32)), .val (.ref r2), .val (.ref r3), .val (.ref w4), .val (.ref w6)] [(.int (0 : Int32)), (.int r9)])) _
    refine XS.ifNo X9.here hx rfl (hb hby at_100) rfl ((if0 _ _).trans (teq (rfl : (0 : Int32) = (0 : Int32))).2) ?_
    show Steps p.tables e below (T9.setTop (mkF m 103 #[.val (.int p1), .val (.int (0 : Int32)), .val (.ref r2), .val (.ref r3), .val (.ref w4), .val (.ref w6)] [(.int r9)])) _
    refine XS.iconst X9.here hx rfl (hb hby at_103) ?_
    show Steps p.tables e below (T9.setTop (mkF m 104 #[.val (.int p1), .val (.int (0 : Int32)), .val (.ref r2), .val (.ref r3), .val (.ref w4), .val (.ref w6)] [(.int (1 : Int32)), (.int r9)])) _
    refine XS.goto X9.here hx rfl (pc0 := 104) (pc' := 108) rfl (hb hby at_104) (by decide) (by decide) ?_
    show Steps p.tables e below (T9.setTop (mkF m 108 #[.val (.int p1), .val (.int (0 : Int32)), .val (.ref r2), .val (.ref r3), .val (.ref w4), .val (.ref w6)] [(.int (1 : Int32)), (.int r9)])) _
    refine XS.icmpNo X9.here hx rfl (hb hby at_108) rfl (teq hx2).2 ?_
    show Steps p.tables e below (T9.setTop (mkF m 111 #[.val (.int p1), .val (.int (0 : Int32)), .val (.ref r2), .val (.ref r3), .val (.ref w4), .val (.ref w6)] [])) _
    refine st10 _ ?_
    show Steps p.tables e below (T10.setTop (mkF m 114 #[.val (.int p1), .val (.int (0 : Int32)), .val (.ref r2), .val (.ref r3), .val (.ref w4), .val (.ref w6)] [(.ref w6)])) _
    refine st11.trans ?_
    show Steps p.tables e below (T11.setTop (mkF m 117 #[.val (.int p1), .val (.int (0 : Int32)), .val (.ref r2), .val (.ref r3), .val (.ref w4), .val (.ref w6)] [(.int r11)])) _
    refine XS.ifNo X11.here hx rfl (hb hby at_117) rfl ((if0 _ _).trans (feq hx3).1) ?_
    show Steps p.tables e below (T11.setTop (mkF m 120 #[.val (.int p1), .val (.int (0 : Int32)), .val (.ref r2), .val (.ref r3), .val (.ref w4), .val (.ref w6)] [])) _
    refine st12 _ ?_
    show Steps p.tables e below (T12.setTop (mkF m 123 #[.val (.int p1), .val (.int (0 : Int32)), .val (.ref r2), .val (.ref r3), .val (.ref w4), .val (.ref w6)] [(.ref w4)])) _
    refine st13.trans ?_
    show Steps p.tables e below (T13.setTop (mkF m 126 #[.val (.int p1), .val (.int (0 : Int32)), .val (.ref r2), .val (.ref r3), .val (.ref w4), .val (.ref w6)] [(.int r13)])) _
    refine XS.ifNo X13.here hx rfl (hb hby at_126) rfl ((if0 _ _).trans (teq hx4).2) ?_
    show Steps p.tables e below (T13.setTop (mkF m 129 #[.val (.int p1), .val (.int (0 : Int32)), .val (.ref r2), .val (.ref r3), .val (.ref w4), .val (.ref w6)] [])) _
    refine XS.iconst X13.here hx rfl (hb hby at_129) ?_
    show Steps p.tables e below (T13.setTop (mkF m 130 #[.val (.int p1), .val (.int (0 : Int32)), .val (.ref r2), .val (.ref r3), .val (.ref w4), .val (.ref w6)] [(.int (1 : Int32))])) _
    refine XS.goto X13.here hx rfl (pc0 := 130) (pc' := 134) rfl (hb hby at_130) (by decide) (by decide) ?_
    show Steps p.tables e below (T13.setTop (mkF m 134 #[.val (.int p1), .val (.int (0 : Int32)), .val (.ref r2), .val (.ref r3), .val (.ref w4), .val (.ref w6)] [(.int (1 : Int32))])) _
    exact retN X13 hx (t := .boolean) Bd.returns (by simp) (hb hby at_134) hr
  · show Q0_tfftttffffffff Z p1 w4 w6 h0 n0 _ T13.heap _
    exact ⟨rfl, N13⟩
set_option maxRecDepth 65536 in
set_option maxHeartbeats 40000000 in
theorem comes_1 {Post : Tables → Env → Array Value → State → Outcome → State → Prop} (hpost : ∀ tb e args s v u, (limb_1_1.after args s (.returned v) u = true ∧ limb_1_2.after args s (.returned v) u = true ∧ True) → FrameEnd s (.returned v) u (Jvm.fieldLocs frame_1_writes args s ++ Jvm.arrayLocs frame_1_arrays args s ++ Jvm.staticLocs frame_1_statics s) 0 0 → Post tb e args s (.returned v) u) :
    ArmFor flags0 classFile x code maxLocals ret World_1 tables_1 room_1 Calls_1 rest_1 Pre_1 Post := by
  intro l hfl _ _ p e ha hc hk s m args below hf hA hF happ hP
  obtain ⟨hcalls, hrest, hpre⟩ := hP
  obtain ⟨-, -, -, hnamed, -, -, -, hat⟩ := (Spec.applies_iff hf).mp happ
  obtain ⟨hg, hn⟩ := and_e (Cond.before_iff.mp (show (Jvm.Cond.and given_1 narrow_1).before args s = true from hpre))
  obtain ⟨g0, hg⟩ := and_e hg
  have g1 := hg
  obtain ⟨w0, rfl⟩ : ∃ w0 : Value, args = #[w0] := by
    have hs : args.size = 1 := by simpa [Cond.value, given_1] using g0
    obtain ⟨L⟩ := args
    match L, hs with
    | [w0], _ => exact ⟨w0, rfl⟩
  obtain ⟨i0, ei0⟩ := is_v g1
  obtain rfl : w0 = (.int i0) := Option.some.inj ei0
  have hw := fun d (hd : d ∈ tables_1) => atoms_spec (ws := Jvm.Cond.code x code maxLocals ret :: tables_1) hat d (List.mem_cons_of_mem _ hd)
  obtain ⟨c0, hn⟩ := and_e hn
  obtain ⟨c1, hn⟩ := and_e hn
  obtain ⟨c2, hn⟩ := and_e hn
  obtain ⟨c3, hn⟩ := and_e hn
  have c4 := hn
  obtain ⟨w_FALSE, ev_FALSE⟩ := exa_v c0
  have E_FALSE := Exa.start ev_FALSE c0
  have S_FALSE := Sta.start ev_FALSE (Or.inr ⟨(hw _ (List.mem_of_getElem? (i := 2) rfl)), (hw _ (List.mem_of_getElem? (i := 5) rfl))⟩)
  obtain ⟨w_TRUE, ev_TRUE⟩ := exa_v c1
  have E_TRUE := Exa.start ev_TRUE c1
  have S_TRUE := Sta.start ev_TRUE (Or.inr ⟨(hw _ (List.mem_of_getElem? (i := 2) rfl)), (hw _ (List.mem_of_getElem? (i := 7) rfl))⟩)
  -- other 2: ['Jvm.Cond.not', ['Jvm.Cond.eq', ['Jvm.Term.static', '"com/example/hakiki/hakiki/semantics/Value$Bool"', '"FALSE"', '"Lcom/example/hakiki/hakiki/semantics/Value$Bool;"'], ['Jvm.Term.static', '"com/example/hakiki/hakiki/semantics/Value$Bool"', '"TRUE"', '"Lcom/example/hakiki/hakiki/semantics/Value$Bool;"']]]
  have F_FALSE_holds := own_fldI ev_FALSE c3
  have F_TRUE_holds := own_fldI ev_TRUE c4
  have key : MetFree l x (head1 (Jvm.Cond.code x code maxLocals ret :: tables_1) room_1) (fun a U => a = #[(.int i0)] ∧ s.Warmed39 U.vm ∧ U.heap = s.heap) (fun _ _ _ _ _ => True) (fun _ U o U' => ∃ v L, o = .returned v ∧ (v = some (.int (1 : Int32)) ∧ Fr s.heap.size L) ∧ FrameEnd U o U' L room_1.cells room_1.slots) := by
    rcases own_k i0 with hv | hv
    · exact rm0_tfftttffffffff l s _ hw tables_1 i0 w_FALSE w_TRUE w_FALSE w_TRUE (0 : Int32) (1 : Int32) (1 : Int32) (0 : Int32) s.heap s.heap.size (Nat.le_refl _) S_FALSE S_TRUE E_TRUE E_FALSE (by rw [hv] <;> decide) rfl rfl (Fld.ne F_FALSE_holds F_TRUE_holds (by decide)) (Or.inr ⟨w_FALSE, S_FALSE, (by decide), rfl⟩) (Or.inl ⟨w_TRUE, S_TRUE, (by decide), rfl⟩) E_FALSE ⟨(0 : Int32), F_FALSE_holds, (by decide), rfl⟩ E_TRUE ⟨(1 : Int32), F_TRUE_holds, (by decide), rfl⟩ ⟨(1 : Int32), F_TRUE_holds, (by decide), rfl⟩ ⟨(0 : Int32), F_FALSE_holds, (by decide), rfl⟩ (by decide) (by decide) (by decide) (by decide)
    · exact rm0_ftftfffffftfff l s _ hw tables_1 i0 w_TRUE w_FALSE w_TRUE w_FALSE (1 : Int32) (0 : Int32) (1 : Int32) (0 : Int32) s.heap s.heap.size (Nat.le_refl _) S_TRUE S_FALSE E_TRUE E_FALSE (by rw [hv] <;> decide) (by decide) (by decide) (by decide) rfl rfl (Fld.ne F_TRUE_holds F_FALSE_holds (by decide)) (by decide) (Or.inl ⟨w_TRUE, S_TRUE, (by decide), rfl⟩) (Or.inr ⟨w_FALSE, S_FALSE, (by decide), rfl⟩) E_TRUE ⟨(1 : Int32), F_TRUE_holds, (by decide), rfl⟩ E_FALSE ⟨(0 : Int32), F_FALSE_holds, (by decide), rfl⟩ ⟨(1 : Int32), F_TRUE_holds, (by decide), rfl⟩ ⟨(0 : Int32), F_FALSE_holds, (by decide), rfl⟩ (by decide) (by decide) (by decide) (by decide)
  obtain ⟨n, o, h1, h2, h3, _, L, rfl, ⟨rfl, N⟩, hq⟩ := key p e ha hc hk s m _ below hf ((Spec.applies_iff_loose hf).mp happ).1 ⟨rfl, State.Warmed39.refl s, rfl⟩ trivial
  refine ⟨n, _, h1, h2, h3, hpost _ _ _ _ _ _ ⟨Cond.after_iff.mpr rfl, Cond.after_iff.mpr (eq_i res_at (Term.int_eval (1)) rfl), trivial⟩ ⟨hq.1, hq.2.1, (hq.2.2.sift fun y hy => Or.inr (N y hy)).mono (by decide) (by decide)⟩⟩
theorem main_1_1 : Claimed_1_1 := comes_1 fun _ _ _ _ _ _ h hF => ⟨h.1, hF⟩
theorem main_1_2 : Claimed_1_2 := comes_1 fun _ _ _ _ _ _ h hF => ⟨h.2.1, hF⟩
end Jvm.Pilot.@@N@@
namespace Jvm.Pilot.@@N@@
open Jvm Jvm.ClassFile Sem Op Lib Jvm.Free Jvm.Stand Jvm.Pilot.@@N@@.Jvm.D
/-! MADE BY PROGRAM (witnessworld.py) out of the Statement's table words and the real class files: 11 classes; the members and pool entries that the words name. The judged class is class 1, her method 1. -/
namespace start1
open Jvm.ClassFile
def u (s : String) : CpInfo := .utf8 (stringToUtf16 s)
/-- a pool by its gaps: so many unusable entries, then the entry; so many at the end -/
def gap : Nat → List CpInfo → List CpInfo
  | 0, r => r
  | n + 1, r => .unusable :: gap n r
def poolList (es : List (Nat × CpInfo)) (last : Nat) : List CpInfo := es.foldr (fun e r => gap e.1 (e.2 :: r)) (gap last [])
def pool (es : List (Nat × CpInfo)) (last : Nat) : Array CpInfo := ⟨poolList es last⟩
def fileOf (pool : Array CpInfo) (this : Nat) (attrs : Array Attribute := #[]) (ms : Array MethodInfo := #[]) (fl : Nat := 33) (sup : Nat := 0) (ifs : Array Nat := #[]) (fds : Array FieldInfo := #[]) : ClassFile where
  minorVersion := 0
  majorVersion := 65
  constantPool := pool
  accessFlags := fl
  thisClass := this
  superClass := sup
  interfaces := ifs
  fields := fds
  methods := ms
  attributes := attrs
def plain (name : String) (sup : Option ClassId) : Class where
  name := name
  kind := .ordinary
  loader := none
  accessFlags := 33
  super := sup
  interfaces := #[]
  cf := none
  fields := #[]
  methods := #[]
  instanceTypes := #[]
  staticTypes := #[]
  resolved := #[]
  callSites := []
  init := .initialized
  statics := none
  mirror := none

def pool0 : Array CpInfo := pool [(5, u "<init>"), (0, u "()V"), (1, .class_ 10), (1, u "java/lang/Object")] 113

def k0m0 : Method := { name := "<init>", desc := "()V", sig := { parameters := [], returnType := none }, accessFlags := 1, code := none }
/-- java/lang/Object -/
def k0 : Class := { plain "java/lang/Object" none with
  accessFlags := 33
  interfaces := #[]
  cf := some (fileOf pool0 8 #[] #[{ accessFlags := 1, nameIndex := 5, descriptorIndex := 6, attributes := #[] }] 33 0 #[] #[])
  fields := #[]
  methods := #[k0m0]
  instanceTypes := #[]
  staticTypes := #[]
  resolved := Array.replicate 124 none
  statics := none }

def pool1 : Array CpInfo := pool [(2, .class_ 4), (1, u "java/lang/Object"), (0, u "<init>"), (0, u "()V"), (0, .methodref 8 9), (0, .class_ 10), (0, .nameAndType 11 12), (0, u "com/example/hakiki/hakiki/semantics/Value$Bool"), (0, u "of"), (0, u "(Z)Lcom/example/hakiki/hakiki/semantics/Value$Bool;"), (0, .fieldref 8 14), (0, .nameAndType 15 16), (0, u "TRUE"), (0, u "Lcom/example/hakiki/hakiki/semantics/Value$Bool;"), (0, .fieldref 8 18), (0, .nameAndType 19 16), (0, u "FALSE"), (0, .methodref 8 21), (0, .nameAndType 22 23), (0, u "holds"), (0, u "()Z"), (0, .class_ 25), (0, u "com/example/hakiki/hakiki/semantics/BoolOfPinLaw"), (2, u "law"), (0, u "(I)Z")] 7

def k1m0 : Method := { name := "<init>", desc := "()V", sig := { parameters := [], returnType := none }, accessFlags := 1, code := none }
def k1c1 : Code := { maxStack := 2, maxLocals := 6, code := code, exceptionTable := #[], attributes := #[] }
def k1m1 : Method := { name := "law", desc := "(I)Z", sig := { parameters := [.int], returnType := some .boolean }, accessFlags := 9, code := some k1c1 }
/-- com/example/hakiki/hakiki/semantics/BoolOfPinLaw -/
def k1 : Class := { plain "com/example/hakiki/hakiki/semantics/BoolOfPinLaw" (some 0) with
  accessFlags := 49
  interfaces := #[]
  cf := some (fileOf pool1 24 #[] #[{ accessFlags := 1, nameIndex := 5, descriptorIndex := 6, attributes := #[] }, { accessFlags := 9, nameIndex := 28, descriptorIndex := 29, attributes := #[] }] 49 2 #[] #[])
  fields := #[]
  methods := #[k1m0, k1m1]
  instanceTypes := #[]
  staticTypes := #[]
  resolved := Array.replicate 37 none
  statics := none }

def pool2 : Array CpInfo := pool [(2, .class_ 4), (1, u "java/lang/Object"), (0, u "<init>"), (0, u "()V"), (0, .class_ 8), (0, u "java/lang/Record")] 13

def k2m0 : Method := { name := "<init>", desc := "()V", sig := { parameters := [], returnType := none }, accessFlags := 4, code := none }
/-- java/lang/Record -/
def k2 : Class := { plain "java/lang/Record" (some 0) with
  accessFlags := 1057
  interfaces := #[]
  cf := some (fileOf pool2 7 #[] #[{ accessFlags := 4, nameIndex := 5, descriptorIndex := 6, attributes := #[] }] 1057 2 #[] #[])
  fields := #[]
  methods := #[k2m0]
  instanceTypes := #[]
  staticTypes := #[]
  resolved := Array.replicate 22 none
  statics := none }

def pool3 : Array CpInfo := pool [(1, .class_ 2), (0, u "com/example/hakiki/hakiki/semantics/Value"), (0, .class_ 4), (0, u "java/lang/Object"), (3, .class_ 9), (0, u "com/example/hakiki/hakiki/semantics/Value$Undef"), (0, .class_ 11), (0, u "com/example/hakiki/hakiki/semantics/Value$Element"), (0, .class_ 13), (0, u "com/example/hakiki/hakiki/semantics/Value$Int"), (0, .class_ 15), (0, u "com/example/hakiki/hakiki/semantics/Value$Bool")] 6

/-- com/example/hakiki/hakiki/semantics/Value -/
def k3 : Class := { plain "com/example/hakiki/hakiki/semantics/Value" (some 0) with
  accessFlags := 1537
  interfaces := #[]
  cf := some (fileOf pool3 1 #[.nestMembers #[8, 10, 12, 14]] #[] 1537 3 #[] #[])
  fields := #[]
  methods := #[]
  instanceTypes := #[]
  staticTypes := #[]
  resolved := Array.replicate 22 none
  statics := none }

def pool4 : Array CpInfo := pool [(2, .class_ 4), (1, u "java/lang/Record"), (2, .fieldref 8 9), (0, .class_ 10), (0, .nameAndType 11 12), (0, u "com/example/hakiki/hakiki/semantics/Value$Bool"), (0, u "holds"), (0, u "Z"), (0, .fieldref 8 14), (0, .nameAndType 15 16), (0, u "TRUE"), (0, u "Lcom/example/hakiki/hakiki/semantics/Value$Bool;"), (0, .fieldref 8 18), (0, .nameAndType 19 16), (0, u "FALSE"), (17, .class_ 38), (0, u "com/example/hakiki/hakiki/semantics/Value"), (3, u "of"), (0, u "(Z)Lcom/example/hakiki/hakiki/semantics/Value$Bool;"), (4, u "()Z")] 22

def k4c0 : Code := { maxStack := 1, maxLocals := 1, code := prog_66_method_2_code, exceptionTable := #[], attributes := #[] }
def k4m0 : Method := { name := "of", desc := "(Z)Lcom/example/hakiki/hakiki/semantics/Value$Bool;", sig := { parameters := [.boolean], returnType := some (.object "com/example/hakiki/hakiki/semantics/Value$Bool") }, accessFlags := 9, code := some k4c0 }
def k4c1 : Code := { maxStack := 1, maxLocals := 1, code := prog_66_method_6_code, exceptionTable := #[], attributes := #[] }
def k4m1 : Method := { name := "holds", desc := "()Z", sig := { parameters := [], returnType := some .boolean }, accessFlags := 1, code := some k4c1 }
/-- com/example/hakiki/hakiki/semantics/Value$Bool -/
def k4 : Class := { plain "com/example/hakiki/hakiki/semantics/Value$Bool" (some 2) with
  accessFlags := 49
  interfaces := #[3]
  cf := some (fileOf pool4 8 #[.nestHost 37] #[{ accessFlags := 9, nameIndex := 42, descriptorIndex := 43, attributes := #[] }, { accessFlags := 1, nameIndex := 11, descriptorIndex := 48, attributes := #[] }] 49 2 #[37] #[{ accessFlags := 18, nameIndex := 11, descriptorIndex := 12, attributes := #[] }, { accessFlags := 25, nameIndex := 15, descriptorIndex := 16, attributes := #[] }, { accessFlags := 25, nameIndex := 19, descriptorIndex := 16, attributes := #[] }])
  fields := #[{ name := "holds", type := .boolean, accessFlags := 18, slot := 0, constantValue := 0 }, { name := "TRUE", type := (.object "com/example/hakiki/hakiki/semantics/Value$Bool"), accessFlags := 25, slot := 0, constantValue := 0 }, { name := "FALSE", type := (.object "com/example/hakiki/hakiki/semantics/Value$Bool"), accessFlags := 25, slot := 1, constantValue := 0 }]
  methods := #[k4m0, k4m1]
  instanceTypes := #[.boolean]
  staticTypes := #[(.object "com/example/hakiki/hakiki/semantics/Value$Bool"), (.object "com/example/hakiki/hakiki/semantics/Value$Bool")]
  resolved := Array.replicate 71 none
  statics := some 0 }

def pool5 : Array CpInfo := pool [(1, u "java/lang/Cloneable"), (0, .class_ 1), (0, u "java/lang/Object"), (0, .class_ 3)] 3

/-- java/lang/Cloneable -/
def k5 : Class := { plain "java/lang/Cloneable" (some 0) with
  accessFlags := 1537
  interfaces := #[]
  cf := some (fileOf pool5 2 #[] #[] 1537 4 #[] #[])
  fields := #[]
  methods := #[]
  instanceTypes := #[]
  staticTypes := #[]
  resolved := Array.replicate 8 none
  statics := none }

def pool6 : Array CpInfo := pool [(1, u "java/io/Serializable"), (0, .class_ 1), (0, u "java/lang/Object"), (0, .class_ 3)] 3

/-- java/io/Serializable -/
def k6 : Class := { plain "java/io/Serializable" (some 0) with
  accessFlags := 1537
  interfaces := #[]
  cf := some (fileOf pool6 2 #[] #[] 1537 4 #[] #[])
  fields := #[]
  methods := #[]
  instanceTypes := #[]
  staticTypes := #[]
  resolved := Array.replicate 8 none
  statics := none }

/-- the primitive byte -/
def k7 : Class := { plain "byte" none with kind := .primitive 'B', accessFlags := 0x411 }
/-- [B -/
def k8 : Class := { plain "[B" (some 0) with kind := .array 7 .byte, interfaces := #[5, 6], accessFlags := 1041 }

/-- the primitive int -/
def k9 : Class := { plain "int" none with kind := .primitive 'I', accessFlags := 0x411 }
/-- [I -/
def k10 : Class := { plain "[I" (some 0) with kind := .array 9 .int, interfaces := #[5, 6], accessFlags := 1041 }

def heap : Heap := #[{ cls := 4, slots := #[.ref 2, .ref 1], vm := .statics 4 },
  { cls := 4, slots := #[.int 0], vm := .none },
  { cls := 4, slots := #[.int 1], vm := .none }]
def classes : Array Class := #[k0, k1, k2, k3, k4, k5, k6, k7, k8, k9, k10]
def interned : List (Array UInt16 × Addr) := []
def slotsUsed : Nat := 4
def theMethod : MethodId := ⟨1, 1⟩
def args0 : Array Value := #[.int 5]
def aboutOver (below : List Frame) : State where
  vm := { classes := classes, interned := interned.toArray }
  heap := heap
  slotsUsed := slotsUsed
  threads := #[{ frames := .invoking theMethod args0 :: below }]
def below0 : List Frame := [.native { method := ⟨0, 0⟩, args := #[] }]
def about1 : State := aboutOver below0
def p0 : Program := .bare "" "" ""
def e0 : Env := launch0.env 0 0 0
theorem w_frames : about1.frames = Frame.invoking theMethod args0 :: below0 := rfl
set_option maxRecDepth 65536 in
theorem w_args : argsFit about1.vm theMethod args0 = true := by decide +kernel
set_option maxRecDepth 65536 in
theorem w_heap : heapFits about1 = true := by decide +kernel
set_option maxRecDepth 65536 in
theorem w_runnable : about1.curStatus? = some .runnable := by decide +kernel
set_option maxRecDepth 65536 in
theorem w_alone : about1.alone = true := by decide +kernel
set_option maxRecDepth 65536 in
theorem w_named : about1.methodNamed? x = some theMethod := by decide +kernel
set_option maxRecDepth 65536 in
theorem w_hears : about1.hears theMethod below0 = true := by decide +kernel
set_option maxRecDepth 65536 in
theorem w_ripe : about1.ripe theMethod args0 below0 = true := by decide +kernel
theorem w_running : about1.status = .running := rfl
set_option maxRecDepth 65536 in
theorem w_room : about1.hasRoom e0.platform room_1 = true :=
  launch0.hasRoom_least _ room_1 (by decide +kernel) (by decide +kernel) (by decide +kernel) (by decide +kernel) (by decide +kernel) (by decide +kernel)
theorem allAtoms_all (ts : List Jvm.Cond) (a : Array Jvm.Value) (st : Jvm.State) : (allAtoms ts).before a st = ts.all (fun c => c.before a st) := by
  induction ts with
  | nil => rfl
  | cons c t ih =>
    show (Jvm.Cond.and c (allAtoms t)).before a st = _
    rw [Jvm.Cond.before_and, ih, List.all_cons]
def words1 : List Jvm.Cond := Jvm.Cond.code x code maxLocals ret :: tables_1
/-- a 'code' word, met by the world's own term for the bytes: nothing is compared byte by byte -/
theorem code_word {y : MethodName} {bytes : ByteArray} {mx : Nat} {rt : Option FieldType} {a : Array Value} {s : State} {m : MethodId} {meth : Method} {c : Code} (h1 : s.methodNamed? y = some m) (h2 : s.vm.method? m = some meth) (h3 : meth.code = some c) (h4 : c.code = bytes)
    (h5 : (c.maxLocals == mx && c.exceptionTable.isEmpty && decide (c.maxStack ≤ mostOperands) && decide (meth.sig.returnType = rt) && !meth.locks && decide (parseMethodDescriptor y.desc = some meth.sig)) = true) : (Jvm.Cond.code y bytes mx rt).before a s = true := by
  simp only [Bool.and_eq_true, beq_iff_eq, Bool.not_eq_true', decide_eq_true_eq] at h5
  obtain ⟨⟨⟨⟨⟨g1, g2⟩, g3⟩, g4⟩, g5⟩, g6⟩ := h5
  simp [Cond.before, Cond.holds, Cond.value, h1, h2, h3, h4, g1, g2, g3, g4, g5, g6]
def isCode : Jvm.Cond → Bool
  | .code _ _ _ _ => true
  | _ => false
theorem all_split {L : List Jvm.Cond} {P : Jvm.Cond → Bool} (h1 : L.all (fun c => isCode c || P c) = true) (h2 : ∀ c ∈ L.filter isCode, P c = true) : L.all P = true := by
  refine List.all_eq_true.mpr fun c hc => ?_
  have h := List.all_eq_true.mp h1 c hc
  rcases Bool.eq_false_or_eq_true (isCode c) with hi | hi
  · exact h2 c (List.mem_filter.mpr ⟨hc, hi⟩)
  · simpa [hi] using h
set_option maxRecDepth 65536 in
theorem w_c0 : (Jvm.Cond.code x code maxLocals ret).before args0 about1 = true := code_word (m := ⟨1, 1⟩) (meth := k1m1) (c := k1c1) (by decide +kernel) rfl rfl rfl (by decide +kernel)
set_option maxRecDepth 65536 in
theorem w_c1 : (Jvm.Cond.code ({ cls := "com/example/hakiki/hakiki/semantics/Value$Bool", name := "of", desc := "(Z)Lcom/example/hakiki/hakiki/semantics/Value$Bool;" } : Jvm.MethodName) prog_66_method_2_code (1 : Nat) (Option.some (Jvm.ClassFile.FieldType.object "com/example/hakiki/hakiki/semantics/Value$Bool"))).before args0 about1 = true := code_word (m := ⟨4, 0⟩) (meth := k4m0) (c := k4c0) (by decide +kernel) rfl rfl rfl (by decide +kernel)
set_option maxRecDepth 65536 in
theorem w_c2 : (Jvm.Cond.code ({ cls := "com/example/hakiki/hakiki/semantics/Value$Bool", name := "holds", desc := "()Z" } : Jvm.MethodName) prog_66_method_6_code (1 : Nat) (Option.some Jvm.ClassFile.FieldType.boolean)).before args0 about1 = true := code_word (m := ⟨4, 1⟩) (meth := k4m1) (c := k4c1) (by decide +kernel) rfl rfl rfl (by decide +kernel)
def codes1 : List Jvm.Cond := [Jvm.Cond.code x code maxLocals ret, Jvm.Cond.code ({ cls := "com/example/hakiki/hakiki/semantics/Value$Bool", name := "of", desc := "(Z)Lcom/example/hakiki/hakiki/semantics/Value$Bool;" } : Jvm.MethodName) prog_66_method_2_code (1 : Nat) (Option.some (Jvm.ClassFile.FieldType.object "com/example/hakiki/hakiki/semantics/Value$Bool")), Jvm.Cond.code ({ cls := "com/example/hakiki/hakiki/semantics/Value$Bool", name := "holds", desc := "()Z" } : Jvm.MethodName) prog_66_method_6_code (1 : Nat) (Option.some Jvm.ClassFile.FieldType.boolean)]
set_option maxRecDepth 65536 in
theorem codes_eq : words1.filter isCode = codes1 := rfl
theorem w_codes : ∀ c ∈ words1.filter isCode, c.before args0 about1 = true := by
  rw [codes_eq]
  intro c hc
  simp only [codes1, List.mem_cons, List.not_mem_nil, or_false] at hc
  rcases hc with rfl | rfl | rfl
  · exact w_c0
  · exact w_c1
  · exact w_c2
set_option maxRecDepth 65536 in
theorem w_t1 : words1.all (fun c => isCode c || c.before args0 about1) = true := by decide +kernel
theorem w_tables : (allAtoms (Jvm.Cond.code x code maxLocals ret :: tables_1)).before args0 about1 = true := by
  rw [allAtoms_all]
  show words1.all (fun c => c.before args0 about1) = true
  refine all_split ?_ w_codes
  rw [w_t1]
set_option maxRecDepth 65536 in
theorem w_case : (Jvm.Cond.and given_1 narrow_1).before args0 about1 = true := by decide +kernel
theorem w_applies : (headSpec (Jvm.Cond.code x code maxLocals ret :: tables_1) room_1).applies x e0.platform about1 = true :=
  (Spec.applies_iff w_frames).mpr ⟨w_running, w_runnable, w_alone, w_named, w_hears, w_ripe, w_room, w_tables⟩
theorem atStart : AtStart classFile x code maxLocals ret World_1 tables_1 room_1 Calls_1 rest_1 Pre_1 launch0 p0 e0 about1 theMethod args0 below0 :=
  ⟨lists_1, trivial, launch0.admits_env _ _ _, launch0.least_env, fairChoices_fair.cas, fairChoices_fair.clock, w_frames, w_args, w_heap, w_applies, trivial, trivial, w_case⟩
end start1
theorem witness_1 : WitnessClaimed_1 := ⟨start1.p0, start1.e0, start1.about1, start1.theMethod, start1.args0, start1.below0, start1.atStart⟩
end Jvm.Pilot.@@N@@
