import JvmDerived
import JvmDerived.Pilot.@@N@@Statement
import JvmDerived.Pilot.@@N@@Code
set_option linter.unusedVariables false
set_option linter.unusedSimpArgs false
@@BLOCK:NumsL.lean.txt@@
namespace Jvm.Pilot.@@N@@
open Jvm Jvm.ClassFile Sem Op Lib Jvm.Free Jvm.Stand Jvm.LawKit Jvm.RoadKit Bundle Jvm.Pilot.@@N@@.Jvm.D
def OwnQ (r : Option Value) (h0 : Heap) (n0 : Nat) (v : Option Value) (h : Heap) (L : List Loc) : Prop := v = r ∧ Fr n0 L ∧ h = h0
theorem own_fldI {args : Array Value} {s : State} {t : Term} {a : Addr} {C n d : String} {v : Int32} (ev : t.eval args s none [] s = some (.ref a)) (h : (Cond.eq (Term.field t C n d) (Term.int v)).value args s none s [] = some true) : Fld s s.heap a C n d (.int v) := by
  obtain ⟨x, y, hx, hy, k1, k2⟩ := cmp_v (Or.inl h)
  have hy' : y = .int v := (Option.some.inj (hy.symm.trans (Term.int_eval v)))
  subst hy'
  obtain ⟨z, rfl⟩ := k2
  have e : z = v := by
    simp only [Cond.value, hx, hy] at h
    simpa using h
  subst e
  exact Fld.start ((fld_at ev).symm.trans hx)
theorem own_fldN {args : Array Value} {s : State} {t : Term} {a : Addr} {C n d : String} (ev : t.eval args s none [] s = some (.ref a)) (h : (Cond.eq (Term.field t C n d) Term.null).value args s none s [] = some true) : Fld s s.heap a C n d .null :=
  Fld.start ((fld_at ev).symm.trans (null_v h))
theorem own_fldR {args : Array Value} {s : State} {t u : Term} {a b : Addr} {C n d : String} (ev : t.eval args s none [] s = some (.ref a)) (eu : u.eval args s none [] s = some (.ref b)) (h : (Cond.eq (Term.field t C n d) u).value args s none s [] = some true) : Fld s s.heap a C n d (.ref b) := by
  obtain ⟨x, y, hx, hy, k1, k2⟩ := cmp_v (Or.inl h)
  have hy' : y = .ref b := (Option.some.inj (hy.symm.trans eu))
  subst hy'
  have hr : x.isRef = true := by cases x <;> simp_all [Kin, Value.isRef]
  have e : x = .ref b := gotT (eq_R hx hy hr rfl) h
  subst e
  exact Fld.start ((fld_at ev).symm.trans hx)
theorem own_stak {Z : State} {h h' : Heap} {C n d : String} {v : Value} {ws : List Addr} (F : Sta Z h C n d v) (K : Keep h h' ws) (hne : ∀ x ∈ ws, ∃ D, Exa Z h x D) : Sta Z h' C n d v := by
  obtain ⟨cf, i, k, f, st, cell, h1, h2, h3, h4, h5, h6, h7⟩ := F
  refine ⟨cf, i, k, f, st, cell, h1, h2, h3, h4, K.2.1 _ _ h5 (fun q => ?_), h6, h7⟩
  obtain ⟨D, c2, k2, g1, -, -, g4, -⟩ := hne _ q
  cases h5.symm.trans g1
  rw [g4] at h6; cases h6
/-- Long's cache as the set says it, at a heap -/
def Cache (Z : State) (h : Heap) (ca : Addr) (cl : Cell) : Prop := Sta Z h "java/lang/Long$LongCache" "cache" "[Ljava/lang/Long;" (.ref ca) ∧ Arr Z h ca cl (.object "java/lang/Long") ∧
  ∀ v : Int64, ¬ v < (-128 : Int64) → ¬ (127 : Int64) < v → ¬ ((v.toInt32 + (128 : Int32)) < 0 ∨ cl.slots.size ≤ (v.toInt32 + (128 : Int32)).toNatClampNeg) ∧ ∃ r, cl.slots[(v.toInt32 + (128 : Int32)).toNatClampNeg]? = some (.ref r) ∧ Exa Z h r "java/lang/Long"
theorem Cache.keep {Z : State} {h h' : Heap} {ca : Addr} {cl : Cell} (C : Cache Z h ca cl) (K : Keep h h' []) : Cache Z h' ca cl := by
  obtain ⟨S, A, F⟩ := C
  refine ⟨own_stak S K all0, ⟨K.2.1 _ _ A.1 nin0, A.2⟩, fun v h1 h2 => ?_⟩
  obtain ⟨q, r, e1, e2⟩ := F v h1 h2
  exact ⟨q, r, e1, e2.keep K⟩
theorem own_cache {args : Array Value} {s : State} (hr : rest_1_c.before args s = true) : ∃ ca cl, Cache s s.heap ca cl := by
  have hn := Cond.before_iff.mp (show (jdkStatics_1.foldr Jvm.Cond.and restOwn_1).before args s = true from hr)
  obtain ⟨c0, hn⟩ := and_e hn
  obtain ⟨c1, hn⟩ := and_e hn
  obtain ⟨c2, hn⟩ := and_e hn
  obtain ⟨c3, hn⟩ := and_e hn
  obtain ⟨c4, hn⟩ := and_e hn
  obtain ⟨c5, -⟩ := and_e hn
  obtain ⟨ca, ev⟩ := arr_v c2
  have S := Sta.start ev (Or.inl (Cond.before_iff.mpr c1))
  obtain ⟨cl, A⟩ := Arr.start ev c2
  have hat := A.fin (Vm.Alike.refl _)
  obtain ⟨hsz, hsize⟩ := Jvm.Free.IntBox.length_fwd (Cond.before_iff.mpr c4) ev A.1 A.2.1 A.2.2
  have hsz256 : cl.slots.size = 256 := by
    have e : (cl.slots.size.toInt32).toInt = cl.slots.size := len_toInt (by omega)
    rw [hsize] at e
    have : ((256 : Int32)).toInt = 256 := by decide
    omega
  refine ⟨ca, cl, S, A, fun v h1 h2 => ?_⟩
  obtain ⟨hbnd, hlt⟩ := Jvm.Free.LongBox.place_okL v h1 h2
  refine ⟨by rw [hsz256]; exact hbnd, ?_⟩
  have hall := Cond.all_elim ev hat c5 _ (show (v.toInt32 + 128).toNatClampNeg < cl.slots.size by rw [hsz256]; exact hlt)
  obtain ⟨hex, -⟩ := and_e hall
  obtain ⟨box, cB, cellB, kB, heB, hcB, hcellB, hkB, hnsB, hclsB, hsl⟩ := Cond.exactly_spec (beq_iff_eq.mpr hex)
  obtain ⟨hnn, hback⟩ := Jvm.Free.IntBox.place_nonneg _ hlt
  have evi : (Term.static "java/lang/Long$LongCache" "cache" "[Ljava/lang/Long;").eval args s none [(v.toInt32 + 128).toNatClampNeg] s = some (.ref ca) := ev
  have hE : (Term.elem (Term.static "java/lang/Long$LongCache" "cache" "[Ljava/lang/Long;") (.index 0)).eval args s none [(v.toInt32 + 128).toNatClampNeg] s = cl.slots[(v.toInt32 + 128).toNatClampNeg]? := by
    simp [Term.eval, hnn, hat, hback] <;> simp_all [Term.eval]
  subst hclsB
  exact ⟨box, hE.symm.trans heB, cellB, kB, hcellB, hcB, hkB, hnsB, hsl⟩
theorem own_NSroot {Z : State} {a0 : Array Value} {O K : String} {n : Nat} (w : (Cond.noSuperclass O).before a0 Z = true) (wi : (Cond.instantiable K n).before a0 Z = true) (hn : O ≠ K) : NS Z O K := by
  obtain ⟨c, k, h1, h2, h3, -, -⟩ := Cond.noSuperclass_spec w
  obtain ⟨t, k2, g1, -⟩ := Cond.instantiable_spec wi
  have ne := ids_ne h1 g1 hn
  refine ⟨c, t, h1, g1, fun fuel => ?_⟩
  cases fuel with
  | zero => rfl
  | succ f => simp [Vm.isSubclassAux, ne, h2, h3]
theorem own_NSno {Z : State} {a0 : Array Value} {C S K : String} {n : Nat} (w : (Cond.superclass C S).before a0 Z = true) (wi : (Cond.instantiable K n).before a0 Z = true) (ns : NS Z C K) (hn : C ≠ K) : ∃ c t, Z.vm.findClass C = some c ∧ Z.vm.findClass K = some t ∧ Z.vm.assignable c t = false := by
  obtain ⟨c, t, h0, g0, n3⟩ := ns
  obtain ⟨p, k, kp, h1, h2, h3, h4, h5, -, h7⟩ := Cond.superclass_spec h0 w
  obtain ⟨t', k2, g1, g2, g3, g4, -⟩ := Cond.instantiable_spec wi
  cases g0.symm.trans g1
  have ne := ids_ne h0 g0 hn
  have g5 : k2.isInterface = false := by
    cases hq : k2.isInterface with
    | false => rfl
    | true => rw [hq] at g4; simp at g4
  refine ⟨c, t, h0, g0, ?_⟩
  show Z.vm.assignableAux (255 + 1) c t = false
  simp [Vm.assignableAux, ne, h2, g2, h5, g3, g5, Vm.isSubclass, n3]
theorem own_m_n (k : Int32) (h0 : 0 ≤ k.toInt) (h1 : k.toInt < 4) : k = (0 : Int32) ∨ k = (1 : Int32) ∨ k = (2 : Int32) ∨ k = (3 : Int32) := by
  have h : k.toInt = 0 ∨ k.toInt = 1 ∨ k.toInt = 2 ∨ k.toInt = 3 := by omega
  rcases h with h | h | h | h
  · exact (Or.inl (Int32.toInt_inj.mp (h.trans (by decide))))
  · exact (Or.inr (Or.inl (Int32.toInt_inj.mp (h.trans (by decide)))))
  · exact (Or.inr (Or.inr (Or.inl (Int32.toInt_inj.mp (h.trans (by decide))))))
  · exact (Or.inr (Or.inr (Or.inr (Int32.toInt_inj.mp (h.trans (by decide))))))
theorem own_m (x : Int32) : x &&& (3 : Int32) = (0 : Int32) ∨ x &&& (3 : Int32) = (1 : Int32) ∨ x &&& (3 : Int32) = (2 : Int32) ∨ x &&& (3 : Int32) = (3 : Int32) := by
  have e := Jvm.Kit.i32_mask x (3 : Int32) (k := 2) (by decide) (by decide)
  exact own_m_n _ (by omega) (by omega)
theorem d_jdk_18_method_1_code_0 : decode jdk_18_method_1_code 0 = .ok (.aload_n 0, 1) := by decide +kernel
theorem d_jdk_18_method_1_code_1 : decode jdk_18_method_1_code 1 = .ok (.invokespecial 1, 3) := by decide +kernel
theorem d_jdk_18_method_1_code_4 : decode jdk_18_method_1_code 4 = .ok (.return_, 1) := by decide +kernel
theorem ef_jdk_18_method_1_code (m : MethodId) (o0 : Addr) : entryFrame m #[(.ref o0)] 1 = mkF m 0 #[.val (.ref o0)] [] := by first | (simp [entryFrame, mkF, argsToLocals, Value.category]; done) | rfl
theorem pn_java_lang_Number : plainName "java/lang/Number" = true := by first | (simp [plainName, overriddenIn]; done) | decide +kernel
def Q_rmNumber (Z : State) (o0 : Addr) (h0 : Heap) (n0 : Nat) (v : Option Value) (h : Heap) (L : List Loc) : Prop := v = none ∧ Fr n0 L ∧ h = h0
set_option maxRecDepth 65536 in
set_option maxHeartbeats 40000000 in
theorem rmNumber (l : Launch) (Z : State) (a0 : Array Value) (hw : ∀ d ∈ tables_1, d.before a0 Z = true) (ws : List Jvm.Cond) (o0 : Addr) (h0 : Heap) (n0 : Nat) (Z0 : n0 ≤ h0.size) :
    MetFree l (⟨"java/lang/Number", "<init>", "()V"⟩ : MethodName) (head1 (Jvm.Cond.code (⟨"java/lang/Number", "<init>", "()V"⟩ : MethodName) jdk_18_method_1_code 1 none :: ws) ({ frames := 1, cells := 0, slots := 0, locals := 12 } : Room)) (fun a U => a = #[(.ref o0)] ∧ Z.Warmed39 U.vm ∧ U.heap = h0) (fun _ _ _ _ _ => True) (fun _ U o U' => ∃ v L, o = .returned v ∧ Q_rmNumber Z o0 h0 n0 v U'.heap L ∧ FrameEnd U o U' L ({ frames := 1, cells := 0, slots := 0, locals := 12 } : Room).cells ({ frames := 1, cells := 0, slots := 0, locals := 12 } : Room).slots) := by
  refine MetFree.of_bodySF (plainFor_of_name pn_java_lang_Number) hisR ?_
  intro p e s m args below meth c s₁ Bd hml0 hP hK
  obtain ⟨rfl, hZ, hh⟩ := hP
  have hx := Bd.exec
  have hby := Bd.bytes
  have hml : c.maxLocals = 1 := hml0
  have hown : s.vm.findClass "java/lang/Number" = some m.cls := findClass_of_methodNamed Bd.named
  have hnm := (name_of_methodNamed Bd.named Bd.method).1
  have X0 : Stand p l e ({ frames := 1, cells := 0, slots := 0, locals := 12 } : Room) s m #[(.ref o0)] below meth c s₁ [] 0 0 := Stand.of_body Bd
  have e0 : s₁.heap = h0 := by rw [← hh, Bd.state]; rfl
  have N0 := Fr.nil n0
  have pre0 : ∀ t, Steps p.tables e below (s₁.setTop (mkF m 0 #[.val (.ref o0)] [])) t → Steps p.tables e below (s₁.setTop (entryFrame m #[(.ref o0)] 1)) t := fun t k => castTop (ef_jdk_18_method_1_code m o0) k
  obtain ⟨T1, X1, e1, st1⟩ := initO X0 hx hZ hown (hw _ (List.mem_of_getElem? (i := 52) rfl)) (hw _ (List.mem_of_getElem? (i := 16) rfl)) (hw _ (List.mem_of_getElem? (i := 17) rfl)) e0 (g := (mkF m 1 #[.val (.ref o0)] [(.ref o0)])) rfl (by rw [hml]; rfl) rfl (hb hby d_jdk_18_method_1_code_1) (by decide) (W := 0) (by show 2 * 0 + _ ≤ _; exact Nat.le_of_eq rfl) (by decide)
  obtain ⟨fs, hr, hrun, hended, hW, hsame⟩ := X1.leave (v := none) (fun _ => rfl)
  refine ⟨_, _, pre0 _ ?_, hrun, hended, _, _, rfl, ?_, ⟨_, rfl⟩, hW, hsame.mono (by decide) (by decide)⟩
  · show Steps p.tables e below (s₁.setTop (mkF m 0 #[.val (.ref o0)] [])) _
    refine XS.aloadN X0.here hx rfl (hb hby d_jdk_18_method_1_code_0) rfl rfl ?_
    show Steps p.tables e below (s₁.setTop (mkF m 1 #[.val (.ref o0)] [(.ref o0)])) _
    refine st1 _ ?_
    show Steps p.tables e below (T1.setTop (mkF m 4 #[.val (.ref o0)] [])) _
    exact X1.returnOut hx Bd.returns (hb hby d_jdk_18_method_1_code_4) hr
  · show Q_rmNumber Z o0 h0 n0 _ T1.heap _
    rw [e1]
    exact ⟨rfl, N0, rfl⟩
theorem d_jdk_35_method_26_code_0 : decode jdk_35_method_26_code 0 = .ok (.aload_n 0, 1) := by decide +kernel
theorem d_jdk_35_method_26_code_1 : decode jdk_35_method_26_code 1 = .ok (.invokespecial 270, 3) := by decide +kernel
theorem pd___V : parseMethodDescriptor "()V" = some ⟨[], none⟩ := by decide +kernel
theorem d_jdk_35_method_26_code_4 : decode jdk_35_method_26_code 4 = .ok (.aload_n 0, 1) := by decide +kernel
theorem d_jdk_35_method_26_code_5 : decode jdk_35_method_26_code 5 = .ok (.lload_n 1, 1) := by decide +kernel
theorem d_jdk_35_method_26_code_6 : decode jdk_35_method_26_code 6 = .ok (.putfield 273, 3) := by decide +kernel
theorem d_jdk_35_method_26_code_9 : decode jdk_35_method_26_code 9 = .ok (.return_, 1) := by decide +kernel
theorem ef_jdk_35_method_26_code (m : MethodId) (o0 : Addr) (q1 : Int64) : entryFrame m #[(.ref o0), (.long q1)] 3 = mkF m 0 #[.val (.ref o0), .val (.long q1), .second] [] := by first | (simp [entryFrame, mkF, argsToLocals, Value.category]; done) | rfl
theorem pn_java_lang_Long : plainName "java/lang/Long" = true := by first | (simp [plainName, overriddenIn]; done) | decide +kernel
def Q_rmLong (Z : State) (o0 : Addr) (q1 : Int64) (u_value_o0 : Value) (h0 : Heap) (n0 : Nat) (v : Option Value) (h : Heap) (L : List Loc) : Prop := v = none ∧ Fr n0 L ∧ Keep h0 h [o0] ∧ Exa Z h o0 "java/lang/Long" ∧ Fld Z h o0 "java/lang/Long" "value" "J" (.long q1)
set_option maxRecDepth 65536 in
set_option maxHeartbeats 40000000 in
theorem rmLong (l : Launch) (Z : State) (a0 : Array Value) (hw : ∀ d ∈ tables_1, d.before a0 Z = true) (ws : List Jvm.Cond) (o0 : Addr) (q1 : Int64) (u_value_o0 : Value) (h0 : Heap) (n0 : Nat) (Z0 : n0 ≤ h0.size) (E_o0 : Exa Z h0 o0 "java/lang/Long") (F_value_o0 : Fld Z h0 o0 "java/lang/Long" "value" "J" u_value_o0) (g_o0 : n0 ≤ o0) :
    MetFree l (⟨"java/lang/Long", "<init>", "(J)V"⟩ : MethodName) (head1 (Jvm.Cond.code (⟨"java/lang/Long", "<init>", "(J)V"⟩ : MethodName) jdk_35_method_26_code 3 none :: ws) ({ frames := 2, cells := 0, slots := 0, locals := 24 } : Room)) (fun a U => a = #[(.ref o0), (.long q1)] ∧ Z.Warmed39 U.vm ∧ U.heap = h0) (fun _ _ _ _ _ => True) (fun _ U o U' => ∃ v L, o = .returned v ∧ Q_rmLong Z o0 q1 u_value_o0 h0 n0 v U'.heap L ∧ FrameEnd U o U' L ({ frames := 2, cells := 0, slots := 0, locals := 24 } : Room).cells ({ frames := 2, cells := 0, slots := 0, locals := 24 } : Room).slots) := by
  refine MetFree.of_bodySF (plainFor_of_name pn_java_lang_Long) hisR ?_
  intro p e s m args below meth c s₁ Bd hml0 hP hK
  obtain ⟨rfl, hZ, hh⟩ := hP
  have hx := Bd.exec
  have hby := Bd.bytes
  have hml : c.maxLocals = 3 := hml0
  have hown : s.vm.findClass "java/lang/Long" = some m.cls := findClass_of_methodNamed Bd.named
  have hnm := (name_of_methodNamed Bd.named Bd.method).1
  have X0 : Stand p l e ({ frames := 2, cells := 0, slots := 0, locals := 24 } : Room) s m #[(.ref o0), (.long q1)] below meth c s₁ [] 0 0 := Stand.of_body Bd
  have e0 : s₁.heap = h0 := by rw [← hh, Bd.state]; rfl
  have N0 := Fr.nil n0
  have pre0 : ∀ t, Steps p.tables e below (s₁.setTop (mkF m 0 #[.val (.ref o0), .val (.long q1), .second] [])) t → Steps p.tables e below (s₁.setTop (entryFrame m #[(.ref o0), (.long q1)] 3)) t := fun t k => castTop (ef_jdk_35_method_26_code m o0 q1) k
  obtain ⟨_, _, ⟨T1, L1, k1, n1⟩, -, X1, ⟨Lc1, hQ1, l1, y1, z1⟩, st1⟩ := X0.specialBack hx (y := (⟨"java/lang/Number", "<init>", "()V"⟩ : MethodName)) rfl hown (mvT hZ (hw _ (List.mem_of_getElem? (i := 46) rfl))) (mvT hZ (hw _ (List.mem_of_getElem? (i := 47) rfl))) (mvT hZ (hw _ (List.mem_of_getElem? (i := 51) rfl))) (by decide) (backOf (W := 0) (rmNumber l Z a0 hw [] o0 h0 n0 Z0) hZ (hw _ (List.mem_of_getElem? (i := 51) rfl)) (hw _ (List.mem_of_getElem? (i := 50) rfl)) (by decide) (by decide)) (g := (mkF m 1 #[.val (.ref o0), .val (.long q1), .second] [(.ref o0)])) rfl (by rw [hml]; rfl) (Steps.refl _) (a := o0) (argsL := []) (rest := []) (lenOf pd___V rfl) rfl (by show 2 * 0 + _ ≤ _; exact Nat.le_of_eq rfl) (hb hby d_jdk_35_method_26_code_1) (fun _ _ => ⟨rfl, e0, (by decide : 0 + 0 ≤ _), (by decide : 0 + 0 ≤ _)⟩)
  dsimp only [Pt.U, Pt.locs, Pt.cells, Pt.slots] at X1 l1 y1 z1 st1 hQ1
  subst l1 y1 z1
  obtain ⟨rfl, N1q, e1⟩ := hQ1
  have N1 := Fr.app N0 N1q
  obtain ⟨T2, h2, X2, e2, W2, st2⟩ := putF X1 hx hZ hown (host := "") (Or.inl (hw _ (List.mem_of_getElem? (i := 53) rfl))) Via.refl e1 F_value_o0 E_o0 (Or.inr ⟨(hw _ (List.mem_of_getElem? (i := 54) rfl)), rfl, hnm⟩) (hw _ (List.mem_of_getElem? (i := 41) rfl)) (ty := .long) (by decide) rfl rfl (g := (mkF m 6 #[.val (.ref o0), .val (.long q1), .second] [(.long q1), (.ref o0)])) rfl rfl (hb hby d_jdk_35_method_26_code_6)
  have Fw2 := F_value_o0.same W2
  have K3 : Keep h0 h2 [o0] := (Keep.refl h0 [o0]).wr W2 (Or.inl (List.mem_of_getElem? (i := 0) rfl))
  have N2 := Fr.snoc X2 N1 g_o0
  obtain ⟨fs, hr, hrun, hended, hW, hsame⟩ := X2.leave (v := none) (fun _ => rfl)
  refine ⟨_, _, pre0 _ ?_, hrun, hended, _, _, rfl, ?_, ⟨_, rfl⟩, hW, hsame.mono (by decide) (by decide)⟩
  · show Steps p.tables e below (s₁.setTop (mkF m 0 #[.val (.ref o0), .val (.long q1), .second] [])) _
    refine XS.aloadN X0.here hx rfl (hb hby d_jdk_35_method_26_code_0) rfl rfl ?_
    show Steps p.tables e below (s₁.setTop (mkF m 1 #[.val (.ref o0), .val (.long q1), .second] [(.ref o0)])) _
    refine st1.trans ?_
    show Steps p.tables e below (T1.setTop (mkF m 4 #[.val (.ref o0), .val (.long q1), .second] [])) _
    refine XS.aloadN X1.here hx rfl (hb hby d_jdk_35_method_26_code_4) rfl rfl ?_
    show Steps p.tables e below (T1.setTop (mkF m 5 #[.val (.ref o0), .val (.long q1), .second] [(.ref o0)])) _
    refine XS.lloadN X1.here hx rfl (hb hby d_jdk_35_method_26_code_5) rfl ?_
    show Steps p.tables e below (T1.setTop (mkF m 6 #[.val (.ref o0), .val (.long q1), .second] [(.long q1), (.ref o0)])) _
    refine st2 _ ?_
    show Steps p.tables e below (T2.setTop (mkF m 9 #[.val (.ref o0), .val (.long q1), .second] [])) _
    exact X2.returnOut hx Bd.returns (hb hby d_jdk_35_method_26_code_9) hr
  · show Q_rmLong Z o0 q1 u_value_o0 h0 n0 _ T2.heap _
    rw [e2]
    exact ⟨rfl, N2, K3, (E_o0.wr W2), Fw2⟩
def QVO (Z : State) (h0 : Heap) (n0 : Nat) (v : Option Value) (h : Heap) (L : List Loc) : Prop := ∃ b, v = some (.ref b) ∧ Fr n0 L ∧ Keep h0 h [] ∧ Exa Z h b "java/lang/Long"

theorem d_jdk_35_method_24_code_0 : decode jdk_35_method_24_code 0 = .ok (.sipush 128, 3) := by decide +kernel
theorem d_jdk_35_method_24_code_3 : decode jdk_35_method_24_code 3 = .ok (.istore_n 2, 1) := by decide +kernel
theorem d_jdk_35_method_24_code_4 : decode jdk_35_method_24_code 4 = .ok (.lload_n 0, 1) := by decide +kernel
theorem d_jdk_35_method_24_code_5 : decode jdk_35_method_24_code 5 = .ok (.ldc2_w 230, 3) := by decide +kernel
theorem d_jdk_35_method_24_code_8 : decode jdk_35_method_24_code 8 = .ok (.lcmp, 1) := by decide +kernel
theorem d_jdk_35_method_24_code_9 : decode jdk_35_method_24_code 9 = .ok (.ifCond .lt 22, 3) := by decide +kernel
theorem d_jdk_35_method_24_code_12 : decode jdk_35_method_24_code 12 = .ok (.lload_n 0, 1) := by decide +kernel
theorem d_jdk_35_method_24_code_13 : decode jdk_35_method_24_code 13 = .ok (.ldc2_w 232, 3) := by decide +kernel
theorem d_jdk_35_method_24_code_16 : decode jdk_35_method_24_code 16 = .ok (.lcmp, 1) := by decide +kernel
theorem d_jdk_35_method_24_code_17 : decode jdk_35_method_24_code 17 = .ok (.ifCond .gt 14, 3) := by decide +kernel
theorem d_jdk_35_method_24_code_20 : decode jdk_35_method_24_code 20 = .ok (.getstatic 234, 3) := by decide +kernel
theorem d_jdk_35_method_24_code_23 : decode jdk_35_method_24_code 23 = .ok (.lload_n 0, 1) := by decide +kernel
theorem d_jdk_35_method_24_code_24 : decode jdk_35_method_24_code 24 = .ok (.l2i, 1) := by decide +kernel
theorem d_jdk_35_method_24_code_25 : decode jdk_35_method_24_code 25 = .ok (.sipush 128, 3) := by decide +kernel
theorem d_jdk_35_method_24_code_28 : decode jdk_35_method_24_code 28 = .ok (.iadd, 1) := by decide +kernel
theorem d_jdk_35_method_24_code_29 : decode jdk_35_method_24_code 29 = .ok (.aaload, 1) := by decide +kernel
theorem d_jdk_35_method_24_code_30 : decode jdk_35_method_24_code 30 = .ok (.areturn, 1) := by decide +kernel
theorem ef_jdk_35_method_24_code (m : MethodId) (q0 : Int64) : entryFrame m #[(.long q0)] 3 = mkF m 0 #[.val (.long q0), .second, .unset] [] := by first | (simp [entryFrame, mkF, argsToLocals, Value.category]; done) | rfl
theorem d_jdk_35_method_24_code_31 : decode jdk_35_method_24_code 31 = .ok (.new 1, 3) := by decide +kernel
theorem d_jdk_35_method_24_code_34 : decode jdk_35_method_24_code 34 = .ok (.dup, 1) := by decide +kernel
theorem d_jdk_35_method_24_code_35 : decode jdk_35_method_24_code 35 = .ok (.lload_n 0, 1) := by decide +kernel
theorem d_jdk_35_method_24_code_36 : decode jdk_35_method_24_code 36 = .ok (.invokespecial 240, 3) := by decide +kernel
theorem pd__J_V : parseMethodDescriptor "(J)V" = some ⟨[.long], none⟩ := by decide +kernel
theorem d_jdk_35_method_24_code_39 : decode jdk_35_method_24_code 39 = .ok (.areturn, 1) := by decide +kernel
set_option maxRecDepth 65536 in
set_option maxHeartbeats 40000000 in
theorem rmVOc (l : Launch) (Z : State) (a0 : Array Value) (hw : ∀ d ∈ tables_1, d.before a0 Z = true) (ws : List Jvm.Cond) (q0 : Int64) (w_cache : Addr) (r : Addr) (cl : Cell) (h0 : Heap) (n0 : Nat) (Z0 : n0 ≤ h0.size) (hc9 : ¬ (q0 < (-128 : Int64))) (hc17 : ¬ ((127 : Int64) < q0)) (S_cache : Sta Z h0 "java/lang/Long$LongCache" "cache" "[Ljava/lang/Long;" (.ref w_cache)) (Ar : Arr Z h0 w_cache cl (.object "java/lang/Long")) (hin : ¬ (((q0.toInt32) + (128 : Int32)) < 0 ∨ cl.slots.size ≤ (((q0.toInt32) + (128 : Int32))).toNatClampNeg)) (hat : cl.slots[(((q0.toInt32) + (128 : Int32))).toNatClampNeg]? = some (.ref r)) (E_r : Exa Z h0 r "java/lang/Long") :
    MetFree l (⟨"java/lang/Long", "valueOf", "(J)Ljava/lang/Long;"⟩ : MethodName) (head1 (Jvm.Cond.code (⟨"java/lang/Long", "valueOf", "(J)Ljava/lang/Long;"⟩ : MethodName) jdk_35_method_24_code 3 (some (.object "java/lang/Long")) :: ws) ({ frames := 3, cells := 1, slots := 1, locals := 40 } : Room)) (fun a U => a = #[(.long q0)] ∧ Z.Warmed39 U.vm ∧ U.heap = h0) (fun _ _ _ _ _ => True) (fun _ U o U' => ∃ v L, o = .returned v ∧ QVO Z h0 n0 v U'.heap L ∧ FrameEnd U o U' L ({ frames := 3, cells := 1, slots := 1, locals := 40 } : Room).cells ({ frames := 3, cells := 1, slots := 1, locals := 40 } : Room).slots) := by
  refine MetFree.of_bodySF (plainFor_of_name pn_java_lang_Long) hisR ?_
  intro p e s m args below meth c s₁ Bd hml0 hP hK
  obtain ⟨rfl, hZ, hh⟩ := hP
  have hx := Bd.exec
  have hby := Bd.bytes
  have hml : c.maxLocals = 3 := hml0
  have hown : s.vm.findClass "java/lang/Long" = some m.cls := findClass_of_methodNamed Bd.named
  have hnm := (name_of_methodNamed Bd.named Bd.method).1
  have X0 : Stand p l e ({ frames := 3, cells := 1, slots := 1, locals := 40 } : Room) s m #[(.long q0)] below meth c s₁ [] 0 0 := Stand.of_body Bd
  have e0 : s₁.heap = h0 := by rw [← hh, Bd.state]; rfl
  have N0 := Fr.nil n0
  have pre0 : ∀ t, Steps p.tables e below (s₁.setTop (mkF m 0 #[.val (.long q0), .second, .unset] [])) t → Steps p.tables e below (s₁.setTop (entryFrame m #[(.long q0)] 3)) t := fun t k => castTop (ef_jdk_35_method_24_code m q0) k
  obtain ⟨T1, X1, e1, st1⟩ := getS2 X0 hx hZ hown (host := "") (Or.inl (hw _ (List.mem_of_getElem? (i := 59) rfl))) Via.refl e0 S_cache (g := (mkF m 20 #[.val (.long q0), .second, .val (.int (128 : Int32))] [])) rfl (hb hby d_jdk_35_method_24_code_20)
  obtain ⟨fs, hr, hrun, hended, hW, hsame⟩ := X1.leave (v := some (.ref r)) (fun h => by rw [Bd.returns] at h; cases h)
  refine ⟨_, _, pre0 _ ?_, hrun, hended, _, _, rfl, ?_, ⟨_, rfl⟩, hW, hsame.mono (by decide) (by decide)⟩
  · show Steps p.tables e below (s₁.setTop (mkF m 0 #[.val (.long q0), .second, .unset] [])) _
    refine XS.sipush X0.here hx rfl (hb hby d_jdk_35_method_24_code_0) ?_
    show Steps p.tables e below (s₁.setTop (mkF m 3 #[.val (.long q0), .second, .unset] [(.int (128 : Int32))])) _
    refine XS.istoreN X0.here hx rfl (hb hby d_jdk_35_method_24_code_3) rfl (l' := #[.val (.long q0), .second, .val (.int (128 : Int32))]) rfl ?_
    show Steps p.tables e below (s₁.setTop (mkF m 4 #[.val (.long q0), .second, .val (.int (128 : Int32))] [])) _
    refine XS.lloadN X0.here hx rfl (hb hby d_jdk_35_method_24_code_4) rfl ?_
    show Steps p.tables e below (s₁.setTop (mkF m 5 #[.val (.long q0), .second, .val (.int (128 : Int32))] [(.long q0)])) _
    refine X0.ldc2Long hx hown (mvT hZ (hw _ (List.mem_of_getElem? (i := 39) rfl))) (g := (mkF m 5 #[.val (.long q0), .second, .val (.int (128 : Int32))] [(.long q0)])) rfl (hb hby d_jdk_35_method_24_code_5) _ ?_
    show Steps p.tables e below (s₁.setTop (mkF m 8 #[.val (.long q0), .second, .val (.int (128 : Int32))] [(.long (-128 : Int64)), (.long q0)])) _
    refine XS.lcmp X0.here hx rfl (hb hby d_jdk_35_method_24_code_8) rfl ?_
    show Steps p.tables e below (s₁.setTop (mkF m 9 #[.val (.long q0), .second, .val (.int (128 : Int32))] [(.int (lcmpW q0 (-128 : Int64)))])) _
    refine XS.ifNo X0.here hx rfl (hb hby d_jdk_35_method_24_code_9) rfl ((if0 _ _).trans (flt (fun q => hc9 ((lw_lt q0 (-128 : Int64)).mp q))).1) ?_
    show Steps p.tables e below (s₁.setTop (mkF m 12 #[.val (.long q0), .second, .val (.int (128 : Int32))] [])) _
    refine XS.lloadN X0.here hx rfl (hb hby d_jdk_35_method_24_code_12) rfl ?_
    show Steps p.tables e below (s₁.setTop (mkF m 13 #[.val (.long q0), .second, .val (.int (128 : Int32))] [(.long q0)])) _
    refine X0.ldc2Long hx hown (mvT hZ (hw _ (List.mem_of_getElem? (i := 58) rfl))) (g := (mkF m 13 #[.val (.long q0), .second, .val (.int (128 : Int32))] [(.long q0)])) rfl (hb hby d_jdk_35_method_24_code_13) _ ?_
    show Steps p.tables e below (s₁.setTop (mkF m 16 #[.val (.long q0), .second, .val (.int (128 : Int32))] [(.long (127 : Int64)), (.long q0)])) _
    refine XS.lcmp X0.here hx rfl (hb hby d_jdk_35_method_24_code_16) rfl ?_
    show Steps p.tables e below (s₁.setTop (mkF m 17 #[.val (.long q0), .second, .val (.int (128 : Int32))] [(.int (lcmpW q0 (127 : Int64)))])) _
    refine XS.ifNo X0.here hx rfl (hb hby d_jdk_35_method_24_code_17) rfl ((if0 _ _).trans (flt (fun q => hc17 ((lw_gt q0 (127 : Int64)).mp q))).2.2.1) ?_
    show Steps p.tables e below (s₁.setTop (mkF m 20 #[.val (.long q0), .second, .val (.int (128 : Int32))] [])) _
    refine st1 _ ?_
    show Steps p.tables e below (T1.setTop (mkF m 23 #[.val (.long q0), .second, .val (.int (128 : Int32))] [(.ref w_cache)])) _
    refine XS.lloadN X1.here hx rfl (hb hby d_jdk_35_method_24_code_23) rfl ?_
    show Steps p.tables e below (T1.setTop (mkF m 24 #[.val (.long q0), .second, .val (.int (128 : Int32))] [(.long q0), (.ref w_cache)])) _
    refine XS.l2i X1.here hx rfl (hb hby d_jdk_35_method_24_code_24) rfl ?_
    show Steps p.tables e below (T1.setTop (mkF m 25 #[.val (.long q0), .second, .val (.int (128 : Int32))] [(.int (q0.toInt32)), (.ref w_cache)])) _
    refine XS.sipush X1.here hx rfl (hb hby d_jdk_35_method_24_code_25) ?_
    show Steps p.tables e below (T1.setTop (mkF m 28 #[.val (.long q0), .second, .val (.int (128 : Int32))] [(.int (128 : Int32)), (.int (q0.toInt32)), (.ref w_cache)])) _
    refine XS.iadd X1.here hx rfl (hb hby d_jdk_35_method_24_code_28) rfl ?_
    show Steps p.tables e below (T1.setTop (mkF m 29 #[.val (.long q0), .second, .val (.int (128 : Int32))] [(.int ((q0.toInt32) + (128 : Int32))), (.ref w_cache)])) _
    refine X1.aaload hx (j := ((q0.toInt32) + (128 : Int32))) (v := (.ref r)) (by rw [e1]; exact Ar.1) (State.isArrayOf_alike hZ.alike Ar.2.1) rfl Ar.2.2 hin hat (g := (mkF m 29 #[.val (.long q0), .second, .val (.int (128 : Int32))] [(.int ((q0.toInt32) + (128 : Int32))), (.ref w_cache)])) rfl rfl (hb hby d_jdk_35_method_24_code_29) _ ?_
    show Steps p.tables e below (T1.setTop (mkF m 30 #[.val (.long q0), .second, .val (.int (128 : Int32))] [(.ref r)])) _
    jvm_step X1.here [X1.here.top, hx, (hb hby d_jdk_35_method_24_code_30), X1.method', Bd.returns, Value.isRef, FieldType.isReference]
    first | (intro acts; rw [hr _ acts rfl rfl rfl]) | rw [hr _ _ rfl rfl rfl]
    exact Steps.refl _
  · show QVO Z h0 n0 _ T1.heap _
    rw [e1]
    exact ⟨r, rfl, N0, Keep.refl h0 [], E_r⟩
set_option maxRecDepth 65536 in
set_option maxHeartbeats 40000000 in
theorem rmVOn (l : Launch) (Z : State) (a0 : Array Value) (hw : ∀ d ∈ tables_1, d.before a0 Z = true) (ws : List Jvm.Cond) (q0 : Int64) (h0 : Heap) (n0 : Nat) (Z0 : n0 ≤ h0.size) (hc9 : ¬ (q0 < (-128 : Int64))) (hc17 : (127 : Int64) < q0) :
    MetFree l (⟨"java/lang/Long", "valueOf", "(J)Ljava/lang/Long;"⟩ : MethodName) (head1 (Jvm.Cond.code (⟨"java/lang/Long", "valueOf", "(J)Ljava/lang/Long;"⟩ : MethodName) jdk_35_method_24_code 3 (some (.object "java/lang/Long")) :: ws) ({ frames := 3, cells := 1, slots := 1, locals := 40 } : Room)) (fun a U => a = #[(.long q0)] ∧ Z.Warmed39 U.vm ∧ U.heap = h0) (fun _ _ _ _ _ => True) (fun _ U o U' => ∃ v L, o = .returned v ∧ QVO Z h0 n0 v U'.heap L ∧ FrameEnd U o U' L ({ frames := 3, cells := 1, slots := 1, locals := 40 } : Room).cells ({ frames := 3, cells := 1, slots := 1, locals := 40 } : Room).slots) := by
  refine MetFree.of_bodySF (plainFor_of_name pn_java_lang_Long) hisR ?_
  intro p e s m args below meth c s₁ Bd hml0 hP hK
  obtain ⟨rfl, hZ, hh⟩ := hP
  have hx := Bd.exec
  have hby := Bd.bytes
  have hml : c.maxLocals = 3 := hml0
  have hown : s.vm.findClass "java/lang/Long" = some m.cls := findClass_of_methodNamed Bd.named
  have hnm := (name_of_methodNamed Bd.named Bd.method).1
  have X0 : Stand p l e ({ frames := 3, cells := 1, slots := 1, locals := 40 } : Room) s m #[(.long q0)] below meth c s₁ [] 0 0 := Stand.of_body Bd
  have e0 : s₁.heap = h0 := by rw [← hh, Bd.state]; rfl
  have N0 := Fr.nil n0
  have pre0 : ∀ t, Steps p.tables e below (s₁.setTop (mkF m 0 #[.val (.long q0), .second, .unset] [])) t → Steps p.tables e below (s₁.setTop (entryFrame m #[(.long q0)] 3)) t := fun t k => castTop (ef_jdk_35_method_24_code m q0) k
  obtain ⟨T1, h1, X1, e1, E1, A1, D1, -, st1⟩ := newO X0 hx hZ hown (hw _ (List.mem_of_getElem? (i := 40) rfl)) (hw _ (List.mem_of_getElem? (i := 41) rfl)) (hw _ (List.mem_of_getElem? (i := 37) rfl)) e0 (g := (mkF m 31 #[.val (.long q0), .second, .val (.int (128 : Int32))] [])) rfl (hb hby d_jdk_35_method_24_code_31) (by decide) (by decide)
  obtain ⟨b1, g1⟩ : ∃ z, z = h0.size := ⟨_, rfl⟩
  rw [← g1] at A1 D1 st1
  have g_b1 : n0 ≤ b1 := Nat.le_trans Z0 (Nat.le_of_eq g1.symm)
  have sz_b1 : h0.size ≤ b1 := Nat.le_trans (Keep.refl h0 []).1 (Nat.le_of_eq g1.symm)
  have E_b1 := A1
  have F_value_b1 : Fld Z h1 b1 "java/lang/Long" "value" "J" (.long (0 : Int64)) := D1 (Or.inr (hw _ (List.mem_of_getElem? (i := 54) rfl))) (ty := .long) (by decide)
  have K2 : Keep h0 h1 [] := (Keep.refl h0 []).ext E1
  obtain ⟨_, _, ⟨T3, L3, k3, n3⟩, -, X3, ⟨Lc3, hQ3, l3, y3, z3⟩, st3⟩ := X1.specialBack hx (y := (⟨"java/lang/Long", "<init>", "(J)V"⟩ : MethodName)) rfl hown (mvT hZ (hw _ (List.mem_of_getElem? (i := 42) rfl))) (mvT hZ (hw _ (List.mem_of_getElem? (i := 43) rfl))) (mvT hZ (hw _ (List.mem_of_getElem? (i := 45) rfl))) (by decide) (backOf (W := 1) (rmLong l Z a0 hw [] b1 q0 (.long (0 : Int64)) h1 n0 (Nat.le_trans Z0 K2.1) E_b1 F_value_b1 g_b1) hZ (hw _ (List.mem_of_getElem? (i := 45) rfl)) (hw _ (List.mem_of_getElem? (i := 37) rfl)) (by decide) (by decide)) (g := (mkF m 36 #[.val (.long q0), .second, .val (.int (128 : Int32))] [(.long q0), (.ref b1), (.ref b1)])) rfl (by rw [hml]; rfl) (Steps.refl _) (a := b1) (argsL := [(.long q0)]) (rest := [(.ref b1)]) (lenOf pd__J_V rfl) rfl (by show 2 * 0 + _ ≤ _; exact Nat.le_of_eq rfl) (hb hby d_jdk_35_method_24_code_36) (fun _ _ => ⟨rfl, e1, (by decide : 1 + 0 ≤ _), (by decide : 1 + 0 ≤ _)⟩)
  dsimp only [Pt.U, Pt.locs, Pt.cells, Pt.slots] at X3 l3 y3 z3 st3 hQ3
  subst l3 y3 z3
  obtain ⟨rfl, N3q, K3, E3, F3⟩ := hQ3
  have K4 : Keep h0 T3.heap [] := K2.trans K3 (allS (P := fun x => x ∈ [] ∨ h0.size ≤ x) (Or.inr sz_b1) all0)
  have N3 := Fr.app N0 N3q
  obtain ⟨fs, hr, hrun, hended, hW, hsame⟩ := X3.leave (v := some (.ref b1)) (fun h => by rw [Bd.returns] at h; cases h)
  refine ⟨_, _, pre0 _ ?_, hrun, hended, _, _, rfl, ?_, ⟨_, rfl⟩, hW, hsame.mono (by decide) (by decide)⟩
  · show Steps p.tables e below (s₁.setTop (mkF m 0 #[.val (.long q0), .second, .unset] [])) _
    refine XS.sipush X0.here hx rfl (hb hby d_jdk_35_method_24_code_0) ?_
    show Steps p.tables e below (s₁.setTop (mkF m 3 #[.val (.long q0), .second, .unset] [(.int (128 : Int32))])) _
    refine XS.istoreN X0.here hx rfl (hb hby d_jdk_35_method_24_code_3) rfl (l' := #[.val (.long q0), .second, .val (.int (128 : Int32))]) rfl ?_
    show Steps p.tables e below (s₁.setTop (mkF m 4 #[.val (.long q0), .second, .val (.int (128 : Int32))] [])) _
    refine XS.lloadN X0.here hx rfl (hb hby d_jdk_35_method_24_code_4) rfl ?_
    show Steps p.tables e below (s₁.setTop (mkF m 5 #[.val (.long q0), .second, .val (.int (128 : Int32))] [(.long q0)])) _
    refine X0.ldc2Long hx hown (mvT hZ (hw _ (List.mem_of_getElem? (i := 39) rfl))) (g := (mkF m 5 #[.val (.long q0), .second, .val (.int (128 : Int32))] [(.long q0)])) rfl (hb hby d_jdk_35_method_24_code_5) _ ?_
    show Steps p.tables e below (s₁.setTop (mkF m 8 #[.val (.long q0), .second, .val (.int (128 : Int32))] [(.long (-128 : Int64)), (.long q0)])) _
    refine XS.lcmp X0.here hx rfl (hb hby d_jdk_35_method_24_code_8) rfl ?_
    show Steps p.tables e below (s₁.setTop (mkF m 9 #[.val (.long q0), .second, .val (.int (128 : Int32))] [(.int (lcmpW q0 (-128 : Int64)))])) _
    refine XS.ifNo X0.here hx rfl (hb hby d_jdk_35_method_24_code_9) rfl ((if0 _ _).trans (flt (fun q => hc9 ((lw_lt q0 (-128 : Int64)).mp q))).1) ?_
    show Steps p.tables e below (s₁.setTop (mkF m 12 #[.val (.long q0), .second, .val (.int (128 : Int32))] [])) _
    refine XS.lloadN X0.here hx rfl (hb hby d_jdk_35_method_24_code_12) rfl ?_
    show Steps p.tables e below (s₁.setTop (mkF m 13 #[.val (.long q0), .second, .val (.int (128 : Int32))] [(.long q0)])) _
    refine X0.ldc2Long hx hown (mvT hZ (hw _ (List.mem_of_getElem? (i := 58) rfl))) (g := (mkF m 13 #[.val (.long q0), .second, .val (.int (128 : Int32))] [(.long q0)])) rfl (hb hby d_jdk_35_method_24_code_13) _ ?_
    show Steps p.tables e below (s₁.setTop (mkF m 16 #[.val (.long q0), .second, .val (.int (128 : Int32))] [(.long (127 : Int64)), (.long q0)])) _
    refine XS.lcmp X0.here hx rfl (hb hby d_jdk_35_method_24_code_16) rfl ?_
    show Steps p.tables e below (s₁.setTop (mkF m 17 #[.val (.long q0), .second, .val (.int (128 : Int32))] [(.int (lcmpW q0 (127 : Int64)))])) _
    refine XS.ifYes X0.here hx rfl (pc0 := 17) (pc' := 31) rfl (hb hby d_jdk_35_method_24_code_17) rfl ((if0 _ _).trans (tlt ((lw_gt q0 (127 : Int64)).mpr hc17)).2.2.1) (by decide) (by decide) ?_
    show Steps p.tables e below (s₁.setTop (mkF m 31 #[.val (.long q0), .second, .val (.int (128 : Int32))] [])) _
    refine st1 _ ?_
    show Steps p.tables e below (T1.setTop (mkF m 34 #[.val (.long q0), .second, .val (.int (128 : Int32))] [(.ref b1)])) _
    refine XS.dup X1.here hx rfl (hb hby d_jdk_35_method_24_code_34) rfl rfl ?_
    show Steps p.tables e below (T1.setTop (mkF m 35 #[.val (.long q0), .second, .val (.int (128 : Int32))] [(.ref b1), (.ref b1)])) _
    refine XS.lloadN X1.here hx rfl (hb hby d_jdk_35_method_24_code_35) rfl ?_
    show Steps p.tables e below (T1.setTop (mkF m 36 #[.val (.long q0), .second, .val (.int (128 : Int32))] [(.long q0), (.ref b1), (.ref b1)])) _
    refine st3.trans ?_
    show Steps p.tables e below (T3.setTop (mkF m 39 #[.val (.long q0), .second, .val (.int (128 : Int32))] [(.ref b1)])) _
    jvm_step X3.here [X3.here.top, hx, (hb hby d_jdk_35_method_24_code_39), X3.method', Bd.returns, Value.isRef, FieldType.isReference]
    first | (intro acts; rw [hr _ acts rfl rfl rfl]) | rw [hr _ _ rfl rfl rfl]
    exact Steps.refl _
  · show QVO Z h0 n0 _ T3.heap _
    exact ⟨b1, rfl, N3, K4, E3⟩
set_option maxRecDepth 65536 in
set_option maxHeartbeats 40000000 in
theorem rmVOl (l : Launch) (Z : State) (a0 : Array Value) (hw : ∀ d ∈ tables_1, d.before a0 Z = true) (ws : List Jvm.Cond) (q0 : Int64) (h0 : Heap) (n0 : Nat) (Z0 : n0 ≤ h0.size) (hc9 : q0 < (-128 : Int64)) :
    MetFree l (⟨"java/lang/Long", "valueOf", "(J)Ljava/lang/Long;"⟩ : MethodName) (head1 (Jvm.Cond.code (⟨"java/lang/Long", "valueOf", "(J)Ljava/lang/Long;"⟩ : MethodName) jdk_35_method_24_code 3 (some (.object "java/lang/Long")) :: ws) ({ frames := 3, cells := 1, slots := 1, locals := 40 } : Room)) (fun a U => a = #[(.long q0)] ∧ Z.Warmed39 U.vm ∧ U.heap = h0) (fun _ _ _ _ _ => True) (fun _ U o U' => ∃ v L, o = .returned v ∧ QVO Z h0 n0 v U'.heap L ∧ FrameEnd U o U' L ({ frames := 3, cells := 1, slots := 1, locals := 40 } : Room).cells ({ frames := 3, cells := 1, slots := 1, locals := 40 } : Room).slots) := by
  refine MetFree.of_bodySF (plainFor_of_name pn_java_lang_Long) hisR ?_
  intro p e s m args below meth c s₁ Bd hml0 hP hK
  obtain ⟨rfl, hZ, hh⟩ := hP
  have hx := Bd.exec
  have hby := Bd.bytes
  have hml : c.maxLocals = 3 := hml0
  have hown : s.vm.findClass "java/lang/Long" = some m.cls := findClass_of_methodNamed Bd.named
  have hnm := (name_of_methodNamed Bd.named Bd.method).1
  have X0 : Stand p l e ({ frames := 3, cells := 1, slots := 1, locals := 40 } : Room) s m #[(.long q0)] below meth c s₁ [] 0 0 := Stand.of_body Bd
  have e0 : s₁.heap = h0 := by rw [← hh, Bd.state]; rfl
  have N0 := Fr.nil n0
  have pre0 : ∀ t, Steps p.tables e below (s₁.setTop (mkF m 0 #[.val (.long q0), .second, .unset] [])) t → Steps p.tables e below (s₁.setTop (entryFrame m #[(.long q0)] 3)) t := fun t k => castTop (ef_jdk_35_method_24_code m q0) k
  obtain ⟨T1, h1, X1, e1, E1, A1, D1, -, st1⟩ := newO X0 hx hZ hown (hw _ (List.mem_of_getElem? (i := 40) rfl)) (hw _ (List.mem_of_getElem? (i := 41) rfl)) (hw _ (List.mem_of_getElem? (i := 37) rfl)) e0 (g := (mkF m 31 #[.val (.long q0), .second, .val (.int (128 : Int32))] [])) rfl (hb hby d_jdk_35_method_24_code_31) (by decide) (by decide)
  obtain ⟨b1, g1⟩ : ∃ z, z = h0.size := ⟨_, rfl⟩
  rw [← g1] at A1 D1 st1
  have g_b1 : n0 ≤ b1 := Nat.le_trans Z0 (Nat.le_of_eq g1.symm)
  have sz_b1 : h0.size ≤ b1 := Nat.le_trans (Keep.refl h0 []).1 (Nat.le_of_eq g1.symm)
  have E_b1 := A1
  have F_value_b1 : Fld Z h1 b1 "java/lang/Long" "value" "J" (.long (0 : Int64)) := D1 (Or.inr (hw _ (List.mem_of_getElem? (i := 54) rfl))) (ty := .long) (by decide)
  have K2 : Keep h0 h1 [] := (Keep.refl h0 []).ext E1
  obtain ⟨_, _, ⟨T3, L3, k3, n3⟩, -, X3, ⟨Lc3, hQ3, l3, y3, z3⟩, st3⟩ := X1.specialBack hx (y := (⟨"java/lang/Long", "<init>", "(J)V"⟩ : MethodName)) rfl hown (mvT hZ (hw _ (List.mem_of_getElem? (i := 42) rfl))) (mvT hZ (hw _ (List.mem_of_getElem? (i := 43) rfl))) (mvT hZ (hw _ (List.mem_of_getElem? (i := 45) rfl))) (by decide) (backOf (W := 1) (rmLong l Z a0 hw [] b1 q0 (.long (0 : Int64)) h1 n0 (Nat.le_trans Z0 K2.1) E_b1 F_value_b1 g_b1) hZ (hw _ (List.mem_of_getElem? (i := 45) rfl)) (hw _ (List.mem_of_getElem? (i := 37) rfl)) (by decide) (by decide)) (g := (mkF m 36 #[.val (.long q0), .second, .val (.int (128 : Int32))] [(.long q0), (.ref b1), (.ref b1)])) rfl (by rw [hml]; rfl) (Steps.refl _) (a := b1) (argsL := [(.long q0)]) (rest := [(.ref b1)]) (lenOf pd__J_V rfl) rfl (by show 2 * 0 + _ ≤ _; exact Nat.le_of_eq rfl) (hb hby d_jdk_35_method_24_code_36) (fun _ _ => ⟨rfl, e1, (by decide : 1 + 0 ≤ _), (by decide : 1 + 0 ≤ _)⟩)
  dsimp only [Pt.U, Pt.locs, Pt.cells, Pt.slots] at X3 l3 y3 z3 st3 hQ3
  subst l3 y3 z3
  obtain ⟨rfl, N3q, K3, E3, F3⟩ := hQ3
  have K4 : Keep h0 T3.heap [] := K2.trans K3 (allS (P := fun x => x ∈ [] ∨ h0.size ≤ x) (Or.inr sz_b1) all0)
  have N3 := Fr.app N0 N3q
  obtain ⟨fs, hr, hrun, hended, hW, hsame⟩ := X3.leave (v := some (.ref b1)) (fun h => by rw [Bd.returns] at h; cases h)
  refine ⟨_, _, pre0 _ ?_, hrun, hended, _, _, rfl, ?_, ⟨_, rfl⟩, hW, hsame.mono (by decide) (by decide)⟩
  · show Steps p.tables e below (s₁.setTop (mkF m 0 #[.val (.long q0), .second, .unset] [])) _
    refine XS.sipush X0.here hx rfl (hb hby d_jdk_35_method_24_code_0) ?_
    show Steps p.tables e below (s₁.setTop (mkF m 3 #[.val (.long q0), .second, .unset] [(.int (128 : Int32))])) _
    refine XS.istoreN X0.here hx rfl (hb hby d_jdk_35_method_24_code_3) rfl (l' := #[.val (.long q0), .second, .val (.int (128 : Int32))]) rfl ?_
    show Steps p.tables e below (s₁.setTop (mkF m 4 #[.val (.long q0), .second, .val (.int (128 : Int32))] [])) _
    refine XS.lloadN X0.here hx rfl (hb hby d_jdk_35_method_24_code_4) rfl ?_
    show Steps p.tables e below (s₁.setTop (mkF m 5 #[.val (.long q0), .second, .val (.int (128 : Int32))] [(.long q0)])) _
    refine X0.ldc2Long hx hown (mvT hZ (hw _ (List.mem_of_getElem? (i := 39) rfl))) (g := (mkF m 5 #[.val (.long q0), .second, .val (.int (128 : Int32))] [(.long q0)])) rfl (hb hby d_jdk_35_method_24_code_5) _ ?_
    show Steps p.tables e below (s₁.setTop (mkF m 8 #[.val (.long q0), .second, .val (.int (128 : Int32))] [(.long (-128 : Int64)), (.long q0)])) _
    refine XS.lcmp X0.here hx rfl (hb hby d_jdk_35_method_24_code_8) rfl ?_
    show Steps p.tables e below (s₁.setTop (mkF m 9 #[.val (.long q0), .second, .val (.int (128 : Int32))] [(.int (lcmpW q0 (-128 : Int64)))])) _
    refine XS.ifYes X0.here hx rfl (pc0 := 9) (pc' := 31) rfl (hb hby d_jdk_35_method_24_code_9) rfl ((if0 _ _).trans (tlt ((lw_lt q0 (-128 : Int64)).mpr hc9)).1) (by decide) (by decide) ?_
    show Steps p.tables e below (s₁.setTop (mkF m 31 #[.val (.long q0), .second, .val (.int (128 : Int32))] [])) _
    refine st1 _ ?_
    show Steps p.tables e below (T1.setTop (mkF m 34 #[.val (.long q0), .second, .val (.int (128 : Int32))] [(.ref b1)])) _
    refine XS.dup X1.here hx rfl (hb hby d_jdk_35_method_24_code_34) rfl rfl ?_
    show Steps p.tables e below (T1.setTop (mkF m 35 #[.val (.long q0), .second, .val (.int (128 : Int32))] [(.ref b1), (.ref b1)])) _
    refine XS.lloadN X1.here hx rfl (hb hby d_jdk_35_method_24_code_35) rfl ?_
    show Steps p.tables e below (T1.setTop (mkF m 36 #[.val (.long q0), .second, .val (.int (128 : Int32))] [(.long q0), (.ref b1), (.ref b1)])) _
    refine st3.trans ?_
    show Steps p.tables e below (T3.setTop (mkF m 39 #[.val (.long q0), .second, .val (.int (128 : Int32))] [(.ref b1)])) _
    jvm_step X3.here [X3.here.top, hx, (hb hby d_jdk_35_method_24_code_39), X3.method', Bd.returns, Value.isRef, FieldType.isReference]
    first | (intro acts; rw [hr _ acts rfl rfl rfl]) | rw [hr _ _ rfl rfl rfl]
    exact Steps.refl _
  · show QVO Z h0 n0 _ T3.heap _
    exact ⟨b1, rfl, N3, K4, E3⟩
set_option maxRecDepth 65536 in
set_option maxHeartbeats 40000000 in
theorem own_vo (l : Launch) (Z : State) (a0 : Array Value) (hw : ∀ d ∈ tables_1, d.before a0 Z = true) (ws : List Jvm.Cond) (q0 : Int64) (ca : Addr) (cl : Cell) (h0 : Heap) (n0 : Nat) (Z0 : n0 ≤ h0.size) (hC : Cache Z h0 ca cl) :
    MetFree l (⟨"java/lang/Long", "valueOf", "(J)Ljava/lang/Long;"⟩ : MethodName) (head1 (Jvm.Cond.code (⟨"java/lang/Long", "valueOf", "(J)Ljava/lang/Long;"⟩ : MethodName) jdk_35_method_24_code 3 (some (.object "java/lang/Long")) :: ws) ({ frames := 3, cells := 1, slots := 1, locals := 40 } : Room)) (fun a U => a = #[(.long q0)] ∧ Z.Warmed39 U.vm ∧ U.heap = h0) (fun _ _ _ _ _ => True) (fun _ U o U' => ∃ v L, o = .returned v ∧ QVO Z h0 n0 v U'.heap L ∧ FrameEnd U o U' L ({ frames := 3, cells := 1, slots := 1, locals := 40 } : Room).cells ({ frames := 3, cells := 1, slots := 1, locals := 40 } : Room).slots) := by
  by_cases hv : q0 < (-128 : Int64)
  · exact rmVOl l Z a0 hw ws q0 h0 n0 Z0 hv
  by_cases hb127 : (127 : Int64) < q0
  · exact rmVOn l Z a0 hw ws q0 h0 n0 Z0 hv hb127
  · obtain ⟨S, A, F⟩ := hC
    obtain ⟨hin, r, hat, E⟩ := F q0 hv hb127
    exact rmVOc l Z a0 hw ws q0 ca r cl h0 n0 Z0 hv hb127 S A hin hat E
theorem d_method_2_code_0 : decode method_2_code 0 = .ok (.iload_n 0, 1) := by decide +kernel
theorem d_method_2_code_1 : decode method_2_code 1 = .ok (.iconst 1, 1) := by decide +kernel
theorem d_method_2_code_2 : decode method_2_code 2 = .ok (.iand, 1) := by decide +kernel
theorem d_method_2_code_3 : decode method_2_code 3 = .ok (.ifCond .ne 9, 3) := by decide +kernel
theorem d_method_2_code_6 : decode method_2_code 6 = .ok (.getstatic 7, 3) := by decide +kernel
theorem d_method_2_code_9 : decode method_2_code 9 = .ok (.goto 6, 3) := by decide +kernel
theorem d_method_2_code_15 : decode method_2_code 15 = .ok (.areturn, 1) := by decide +kernel
theorem ef_method_2_code (m : MethodId) (p0 : Int32) : entryFrame m #[(.int p0)] 1 = mkF m 0 #[.val (.int p0)] [] := by first | (simp [entryFrame, mkF, argsToLocals, Value.category]; done) | rfl
theorem pn_com_example_lessor_lessor_namespace_BindingEqualsPinLaw : plainName "com/example/lessor/lessor/namespace/BindingEqualsPinLaw" = true := by first | (simp [plainName, overriddenIn]; done) | decide +kernel
def Q_rmTy_DIRECTORY (Z : State) (p0 : Int32) (w_DIRECTORY : Addr) (h0 : Heap) (n0 : Nat) (v : Option Value) (h : Heap) (L : List Loc) : Prop := v = some (.ref w_DIRECTORY) ∧ Fr n0 L ∧ h = h0
set_option maxRecDepth 65536 in
set_option maxHeartbeats 40000000 in
theorem rmTy_DIRECTORY (l : Launch) (Z : State) (a0 : Array Value) (hw : ∀ d ∈ tables_1, d.before a0 Z = true) (ws : List Jvm.Cond) (p0 : Int32) (w_DIRECTORY : Addr) (h0 : Heap) (n0 : Nat) (Z0 : n0 ≤ h0.size) (hc3 : (p0 &&& (1 : Int32)) = (0 : Int32)) (S_DIRECTORY : Sta Z h0 "com/example/lessor/lessor/namespace/FileType" "DIRECTORY" "Lcom/example/lessor/lessor/namespace/FileType;" (.ref w_DIRECTORY)) :
    MetFree l (⟨"com/example/lessor/lessor/namespace/BindingEqualsPinLaw", "typeOf", "(I)Lcom/example/lessor/lessor/namespace/FileType;"⟩ : MethodName) (head1 (Jvm.Cond.code (⟨"com/example/lessor/lessor/namespace/BindingEqualsPinLaw", "typeOf", "(I)Lcom/example/lessor/lessor/namespace/FileType;"⟩ : MethodName) method_2_code 1 (some (.object "com/example/lessor/lessor/namespace/FileType")) :: ws) ({ frames := 0, cells := 0, slots := 0, locals := 0 } : Room)) (fun a U => a = #[(.int p0)] ∧ Z.Warmed39 U.vm ∧ U.heap = h0) (fun _ _ _ _ _ => True) (fun _ U o U' => ∃ v L, o = .returned v ∧ Q_rmTy_DIRECTORY Z p0 w_DIRECTORY h0 n0 v U'.heap L ∧ FrameEnd U o U' L ({ frames := 0, cells := 0, slots := 0, locals := 0 } : Room).cells ({ frames := 0, cells := 0, slots := 0, locals := 0 } : Room).slots) := by
  refine MetFree.of_bodySF (plainFor_of_name pn_com_example_lessor_lessor_namespace_BindingEqualsPinLaw) hisR ?_
  intro p e s m args below meth c s₁ Bd hml0 hP hK
  obtain ⟨rfl, hZ, hh⟩ := hP
  have hx := Bd.exec
  have hby := Bd.bytes
  have hml : c.maxLocals = 1 := hml0
  have hown : s.vm.findClass "com/example/lessor/lessor/namespace/BindingEqualsPinLaw" = some m.cls := findClass_of_methodNamed Bd.named
  have hnm := (name_of_methodNamed Bd.named Bd.method).1
  have X0 : Stand p l e ({ frames := 0, cells := 0, slots := 0, locals := 0 } : Room) s m #[(.int p0)] below meth c s₁ [] 0 0 := Stand.of_body Bd
  have e0 : s₁.heap = h0 := by rw [← hh, Bd.state]; rfl
  have N0 := Fr.nil n0
  have pre0 : ∀ t, Steps p.tables e below (s₁.setTop (mkF m 0 #[.val (.int p0)] [])) t → Steps p.tables e below (s₁.setTop (entryFrame m #[(.int p0)] 1)) t := fun t k => castTop (ef_method_2_code m p0) k
  obtain ⟨T1, X1, e1, st1⟩ := getS2 X0 hx hZ hown (host := "") (Or.inl (hw _ (List.mem_of_getElem? (i := 4) rfl))) Via.refl e0 S_DIRECTORY (g := (mkF m 6 #[.val (.int p0)] [])) rfl (hb hby d_method_2_code_6)
  obtain ⟨fs, hr, hrun, hended, hW, hsame⟩ := X1.leave (v := some (.ref w_DIRECTORY)) (fun h => by rw [Bd.returns] at h; cases h)
  refine ⟨_, _, pre0 _ ?_, hrun, hended, _, _, rfl, ?_, ⟨_, rfl⟩, hW, hsame.mono (by decide) (by decide)⟩
  · show Steps p.tables e below (s₁.setTop (mkF m 0 #[.val (.int p0)] [])) _
    refine XS.iloadN X0.here hx rfl (hb hby d_method_2_code_0) rfl ?_
    show Steps p.tables e below (s₁.setTop (mkF m 1 #[.val (.int p0)] [(.int p0)])) _
    refine XS.iconst X0.here hx rfl (hb hby d_method_2_code_1) ?_
    show Steps p.tables e below (s₁.setTop (mkF m 2 #[.val (.int p0)] [(.int (1 : Int32)), (.int p0)])) _
    refine XS.iand X0.here hx rfl (hb hby d_method_2_code_2) rfl ?_
    show Steps p.tables e below (s₁.setTop (mkF m 3 #[.val (.int p0)] [(.int (p0 &&& (1 : Int32)))])) _
    refine XS.ifNo X0.here hx rfl (hb hby d_method_2_code_3) rfl ((if0 _ _).trans (teq hc3).2) ?_
    show Steps p.tables e below (s₁.setTop (mkF m 6 #[.val (.int p0)] [])) _
    refine st1 _ ?_
    show Steps p.tables e below (T1.setTop (mkF m 9 #[.val (.int p0)] [(.ref w_DIRECTORY)])) _
    refine XS.goto X1.here hx rfl (pc0 := 9) (pc' := 15) rfl (hb hby d_method_2_code_9) (by decide) (by decide) ?_
    show Steps p.tables e below (T1.setTop (mkF m 15 #[.val (.int p0)] [(.ref w_DIRECTORY)])) _
    jvm_step X1.here [X1.here.top, hx, (hb hby d_method_2_code_15), X1.method', Bd.returns, Value.isRef, FieldType.isReference]
    first | (intro acts; rw [hr _ acts rfl rfl rfl]) | rw [hr _ _ rfl rfl rfl]
    exact Steps.refl _
  · show Q_rmTy_DIRECTORY Z p0 w_DIRECTORY h0 n0 _ T1.heap _
    rw [e1]
    exact ⟨rfl, N0, rfl⟩
theorem d_method_2_code_12 : decode method_2_code 12 = .ok (.getstatic 13, 3) := by decide +kernel
def Q_rmTy_FILE (Z : State) (p0 : Int32) (w_FILE : Addr) (h0 : Heap) (n0 : Nat) (v : Option Value) (h : Heap) (L : List Loc) : Prop := v = some (.ref w_FILE) ∧ Fr n0 L ∧ h = h0
set_option maxRecDepth 65536 in
set_option maxHeartbeats 40000000 in
theorem rmTy_FILE (l : Launch) (Z : State) (a0 : Array Value) (hw : ∀ d ∈ tables_1, d.before a0 Z = true) (ws : List Jvm.Cond) (p0 : Int32) (w_FILE : Addr) (h0 : Heap) (n0 : Nat) (Z0 : n0 ≤ h0.size) (hc3 : ¬ ((p0 &&& (1 : Int32)) = (0 : Int32))) (S_FILE : Sta Z h0 "com/example/lessor/lessor/namespace/FileType" "FILE" "Lcom/example/lessor/lessor/namespace/FileType;" (.ref w_FILE)) :
    MetFree l (⟨"com/example/lessor/lessor/namespace/BindingEqualsPinLaw", "typeOf", "(I)Lcom/example/lessor/lessor/namespace/FileType;"⟩ : MethodName) (head1 (Jvm.Cond.code (⟨"com/example/lessor/lessor/namespace/BindingEqualsPinLaw", "typeOf", "(I)Lcom/example/lessor/lessor/namespace/FileType;"⟩ : MethodName) method_2_code 1 (some (.object "com/example/lessor/lessor/namespace/FileType")) :: ws) ({ frames := 0, cells := 0, slots := 0, locals := 0 } : Room)) (fun a U => a = #[(.int p0)] ∧ Z.Warmed39 U.vm ∧ U.heap = h0) (fun _ _ _ _ _ => True) (fun _ U o U' => ∃ v L, o = .returned v ∧ Q_rmTy_FILE Z p0 w_FILE h0 n0 v U'.heap L ∧ FrameEnd U o U' L ({ frames := 0, cells := 0, slots := 0, locals := 0 } : Room).cells ({ frames := 0, cells := 0, slots := 0, locals := 0 } : Room).slots) := by
  refine MetFree.of_bodySF (plainFor_of_name pn_com_example_lessor_lessor_namespace_BindingEqualsPinLaw) hisR ?_
  intro p e s m args below meth c s₁ Bd hml0 hP hK
  obtain ⟨rfl, hZ, hh⟩ := hP
  have hx := Bd.exec
  have hby := Bd.bytes
  have hml : c.maxLocals = 1 := hml0
  have hown : s.vm.findClass "com/example/lessor/lessor/namespace/BindingEqualsPinLaw" = some m.cls := findClass_of_methodNamed Bd.named
  have hnm := (name_of_methodNamed Bd.named Bd.method).1
  have X0 : Stand p l e ({ frames := 0, cells := 0, slots := 0, locals := 0 } : Room) s m #[(.int p0)] below meth c s₁ [] 0 0 := Stand.of_body Bd
  have e0 : s₁.heap = h0 := by rw [← hh, Bd.state]; rfl
  have N0 := Fr.nil n0
  have pre0 : ∀ t, Steps p.tables e below (s₁.setTop (mkF m 0 #[.val (.int p0)] [])) t → Steps p.tables e below (s₁.setTop (entryFrame m #[(.int p0)] 1)) t := fun t k => castTop (ef_method_2_code m p0) k
  obtain ⟨T1, X1, e1, st1⟩ := getS2 X0 hx hZ hown (host := "") (Or.inl (hw _ (List.mem_of_getElem? (i := 7) rfl))) Via.refl e0 S_FILE (g := (mkF m 12 #[.val (.int p0)] [])) rfl (hb hby d_method_2_code_12)
  obtain ⟨fs, hr, hrun, hended, hW, hsame⟩ := X1.leave (v := some (.ref w_FILE)) (fun h => by rw [Bd.returns] at h; cases h)
  refine ⟨_, _, pre0 _ ?_, hrun, hended, _, _, rfl, ?_, ⟨_, rfl⟩, hW, hsame.mono (by decide) (by decide)⟩
  · show Steps p.tables e below (s₁.setTop (mkF m 0 #[.val (.int p0)] [])) _
    refine XS.iloadN X0.here hx rfl (hb hby d_method_2_code_0) rfl ?_
    show Steps p.tables e below (s₁.setTop (mkF m 1 #[.val (.int p0)] [(.int p0)])) _
    refine XS.iconst X0.here hx rfl (hb hby d_method_2_code_1) ?_
    show Steps p.tables e below (s₁.setTop (mkF m 2 #[.val (.int p0)] [(.int (1 : Int32)), (.int p0)])) _
    refine XS.iand X0.here hx rfl (hb hby d_method_2_code_2) rfl ?_
    show Steps p.tables e below (s₁.setTop (mkF m 3 #[.val (.int p0)] [(.int (p0 &&& (1 : Int32)))])) _
    refine XS.ifYes X0.here hx rfl (pc0 := 3) (pc' := 12) rfl (hb hby d_method_2_code_3) rfl ((if0 _ _).trans (feq hc3).2) (by decide) (by decide) ?_
    show Steps p.tables e below (s₁.setTop (mkF m 12 #[.val (.int p0)] [])) _
    refine st1 _ ?_
    show Steps p.tables e below (T1.setTop (mkF m 15 #[.val (.int p0)] [(.ref w_FILE)])) _
    jvm_step X1.here [X1.here.top, hx, (hb hby d_method_2_code_15), X1.method', Bd.returns, Value.isRef, FieldType.isReference]
    first | (intro acts; rw [hr _ acts rfl rfl rfl]) | rw [hr _ _ rfl rfl rfl]
    exact Steps.refl _
  · show Q_rmTy_FILE Z p0 w_FILE h0 n0 _ T1.heap _
    rw [e1]
    exact ⟨rfl, N0, rfl⟩
def PTy (Z : State) (h0 : Heap) (p0 : Int32) (r : Addr) : Prop := (Sta Z h0 "com/example/lessor/lessor/namespace/FileType" "DIRECTORY" "Lcom/example/lessor/lessor/namespace/FileType;" (.ref r) ∧ (p0 &&& (1 : Int32)) = (0 : Int32)) ∨ (Sta Z h0 "com/example/lessor/lessor/namespace/FileType" "FILE" "Lcom/example/lessor/lessor/namespace/FileType;" (.ref r) ∧ ¬ ((p0 &&& (1 : Int32)) = (0 : Int32)))
theorem own_ty (l : Launch) (Z : State) (a0 : Array Value) (hw : ∀ d ∈ tables_1, d.before a0 Z = true) (ws : List Jvm.Cond) (p0 : Int32) (r : Addr) (h0 : Heap) (n0 : Nat) (Z0 : n0 ≤ h0.size) (hp : PTy Z h0 p0 r) :
    MetFree l (⟨"com/example/lessor/lessor/namespace/BindingEqualsPinLaw", "typeOf", "(I)Lcom/example/lessor/lessor/namespace/FileType;"⟩ : MethodName) (head1 (Jvm.Cond.code (⟨"com/example/lessor/lessor/namespace/BindingEqualsPinLaw", "typeOf", "(I)Lcom/example/lessor/lessor/namespace/FileType;"⟩ : MethodName) method_2_code 1 (some (.object "com/example/lessor/lessor/namespace/FileType")) :: ws) ({ frames := 0, cells := 0, slots := 0, locals := 0 } : Room)) (fun a U => a = #[(.int p0)] ∧ Z.Warmed39 U.vm ∧ U.heap = h0) (fun _ _ _ _ _ => True) (fun _ U o U' => ∃ v L, o = .returned v ∧ OwnQ (some (.ref r)) h0 n0 v U'.heap L ∧ FrameEnd U o U' L ({ frames := 0, cells := 0, slots := 0, locals := 0 } : Room).cells ({ frames := 0, cells := 0, slots := 0, locals := 0 } : Room).slots) := by
  rcases hp with ⟨k1, k2⟩ | ⟨k1, k2⟩
  · exact rmTy_DIRECTORY l Z a0 hw ws p0 r h0 n0 Z0 k2 k1
  · exact rmTy_FILE l Z a0 hw ws p0 r h0 n0 Z0 k2 k1
theorem d_jdk_31_method_10_code_0 : decode jdk_31_method_10_code 0 = .ok (.aload_n 0, 1) := by decide +kernel
theorem d_jdk_31_method_10_code_1 : decode jdk_31_method_10_code 1 = .ok (.ifnonnull 11, 3) := by decide +kernel
theorem d_jdk_31_method_10_code_12 : decode jdk_31_method_10_code 12 = .ok (.aload_n 0, 1) := by decide +kernel
theorem d_jdk_31_method_10_code_13 : decode jdk_31_method_10_code 13 = .ok (.areturn, 1) := by decide +kernel
theorem ef_jdk_31_method_10_code (m : MethodId) (o0 : Addr) : entryFrame m #[(.ref o0)] 1 = mkF m 0 #[.val (.ref o0)] [] := by first | (simp [entryFrame, mkF, argsToLocals, Value.category]; done) | rfl
theorem pn_java_util_Objects : plainName "java/util/Objects" = true := by first | (simp [plainName, overriddenIn]; done) | decide +kernel
def Q_rmRNN (Z : State) (o0 : Addr) (h0 : Heap) (n0 : Nat) (v : Option Value) (h : Heap) (L : List Loc) : Prop := v = some (.ref o0) ∧ Fr n0 L ∧ h = h0
set_option maxRecDepth 65536 in
set_option maxHeartbeats 40000000 in
theorem rmRNN (l : Launch) (Z : State) (a0 : Array Value) (hw : ∀ d ∈ tables_1, d.before a0 Z = true) (ws : List Jvm.Cond) (o0 : Addr) (h0 : Heap) (n0 : Nat) (Z0 : n0 ≤ h0.size) :
    MetFree l (⟨"java/util/Objects", "requireNonNull", "(Ljava/lang/Object;)Ljava/lang/Object;"⟩ : MethodName) (head1 (Jvm.Cond.code (⟨"java/util/Objects", "requireNonNull", "(Ljava/lang/Object;)Ljava/lang/Object;"⟩ : MethodName) jdk_31_method_10_code 1 (some (.object "java/lang/Object")) :: ws) ({ frames := 0, cells := 0, slots := 0, locals := 0 } : Room)) (fun a U => a = #[(.ref o0)] ∧ Z.Warmed39 U.vm ∧ U.heap = h0) (fun _ _ _ _ _ => True) (fun _ U o U' => ∃ v L, o = .returned v ∧ Q_rmRNN Z o0 h0 n0 v U'.heap L ∧ FrameEnd U o U' L ({ frames := 0, cells := 0, slots := 0, locals := 0 } : Room).cells ({ frames := 0, cells := 0, slots := 0, locals := 0 } : Room).slots) := by
  refine MetFree.of_bodySF (plainFor_of_name pn_java_util_Objects) hisR ?_
  intro p e s m args below meth c s₁ Bd hml0 hP hK
  obtain ⟨rfl, hZ, hh⟩ := hP
  have hx := Bd.exec
  have hby := Bd.bytes
  have hml : c.maxLocals = 1 := hml0
  have hown : s.vm.findClass "java/util/Objects" = some m.cls := findClass_of_methodNamed Bd.named
  have hnm := (name_of_methodNamed Bd.named Bd.method).1
  have X0 : Stand p l e ({ frames := 0, cells := 0, slots := 0, locals := 0 } : Room) s m #[(.ref o0)] below meth c s₁ [] 0 0 := Stand.of_body Bd
  have e0 : s₁.heap = h0 := by rw [← hh, Bd.state]; rfl
  have N0 := Fr.nil n0
  have pre0 : ∀ t, Steps p.tables e below (s₁.setTop (mkF m 0 #[.val (.ref o0)] [])) t → Steps p.tables e below (s₁.setTop (entryFrame m #[(.ref o0)] 1)) t := fun t k => castTop (ef_jdk_31_method_10_code m o0) k
  obtain ⟨fs, hr, hrun, hended, hW, hsame⟩ := X0.leave (v := some (.ref o0)) (fun h => by rw [Bd.returns] at h; cases h)
  refine ⟨_, _, pre0 _ ?_, hrun, hended, _, _, rfl, ?_, ⟨_, rfl⟩, hW, hsame.mono (by decide) (by decide)⟩
  · show Steps p.tables e below (s₁.setTop (mkF m 0 #[.val (.ref o0)] [])) _
    refine XS.aloadN X0.here hx rfl (hb hby d_jdk_31_method_10_code_0) rfl rfl ?_
    show Steps p.tables e below (s₁.setTop (mkF m 1 #[.val (.ref o0)] [(.ref o0)])) _
    refine XS.ifnonnullYes X0.here hx rfl (pc0 := 1) (pc' := 12) rfl (hb hby d_jdk_31_method_10_code_1) rfl (by decide) (by decide) ?_
    show Steps p.tables e below (s₁.setTop (mkF m 12 #[.val (.ref o0)] [])) _
    refine XS.aloadN X0.here hx rfl (hb hby d_jdk_31_method_10_code_12) rfl rfl ?_
    show Steps p.tables e below (s₁.setTop (mkF m 13 #[.val (.ref o0)] [(.ref o0)])) _
    jvm_step X0.here [X0.here.top, hx, (hb hby d_jdk_31_method_10_code_13), X0.method', Bd.returns, Value.isRef, FieldType.isReference]
    first | (intro acts; rw [hr _ acts rfl rfl rfl]) | rw [hr _ _ rfl rfl rfl]
    exact Steps.refl _
  · show Q_rmRNN Z o0 h0 n0 _ s₁.heap _
    rw [e0]
    exact ⟨rfl, N0, rfl⟩
theorem d_prog_13_method_1_code_0 : decode prog_13_method_1_code 0 = .ok (.aload_n 0, 1) := by decide +kernel
theorem d_prog_13_method_1_code_1 : decode prog_13_method_1_code 1 = .ok (.invokespecial 1, 3) := by decide +kernel
theorem d_prog_13_method_1_code_4 : decode prog_13_method_1_code 4 = .ok (.aload_n 0, 1) := by decide +kernel
theorem d_prog_13_method_1_code_5 : decode prog_13_method_1_code 5 = .ok (.aload_n 1, 1) := by decide +kernel
theorem d_prog_13_method_1_code_6 : decode prog_13_method_1_code 6 = .ok (.invokestatic 7, 3) := by decide +kernel
theorem pd__Ljava_lang_Object__Ljava_lang_Object_ : parseMethodDescriptor "(Ljava/lang/Object;)Ljava/lang/Object;" = some ⟨[(.object "java/lang/Object")], some (.object "java/lang/Object")⟩ := by decide +kernel
theorem d_prog_13_method_1_code_9 : decode prog_13_method_1_code 9 = .ok (.checkcast 13, 3) := by decide +kernel
theorem d_prog_13_method_1_code_12 : decode prog_13_method_1_code 12 = .ok (.putfield 15, 3) := by decide +kernel
theorem d_prog_13_method_1_code_15 : decode prog_13_method_1_code 15 = .ok (.aload_n 0, 1) := by decide +kernel
theorem d_prog_13_method_1_code_16 : decode prog_13_method_1_code 16 = .ok (.lload_n 2, 1) := by decide +kernel
theorem d_prog_13_method_1_code_17 : decode prog_13_method_1_code 17 = .ok (.putfield 21, 3) := by decide +kernel
theorem d_prog_13_method_1_code_20 : decode prog_13_method_1_code 20 = .ok (.return_, 1) := by decide +kernel
theorem ef_prog_13_method_1_code (m : MethodId) (o0 : Addr) (o1 : Addr) (q2 : Int64) : entryFrame m #[(.ref o0), (.ref o1), (.long q2)] 4 = mkF m 0 #[.val (.ref o0), .val (.ref o1), .val (.long q2), .second] [] := by first | (simp [entryFrame, mkF, argsToLocals, Value.category]; done) | rfl
theorem pn_com_example_lessor_lessor_namespace_Binding : plainName "com/example/lessor/lessor/namespace/Binding" = true := by first | (simp [plainName, overriddenIn]; done) | decide +kernel
def Q_rmBinding (Z : State) (o0 : Addr) (o1 : Addr) (q2 : Int64) (u_type_o0 : Value) (u_identifier_o0 : Value) (h0 : Heap) (n0 : Nat) (v : Option Value) (h : Heap) (L : List Loc) : Prop := v = none ∧ Fr n0 L ∧ Keep h0 h [o0] ∧ Exa Z h o0 "com/example/lessor/lessor/namespace/Binding" ∧ Fld Z h o0 "com/example/lessor/lessor/namespace/Binding" "type" "Lcom/example/lessor/lessor/namespace/FileType;" (.ref o1) ∧ Fld Z h o0 "com/example/lessor/lessor/namespace/Binding" "identifier" "J" (.long q2)
set_option maxRecDepth 65536 in
set_option maxHeartbeats 40000000 in
theorem rmBinding (l : Launch) (Z : State) (a0 : Array Value) (hw : ∀ d ∈ tables_1, d.before a0 Z = true) (ws : List Jvm.Cond) (o0 : Addr) (o1 : Addr) (q2 : Int64) (u_type_o0 : Value) (u_identifier_o0 : Value) (h0 : Heap) (n0 : Nat) (Z0 : n0 ≤ h0.size) (E_o0 : Exa Z h0 o0 "com/example/lessor/lessor/namespace/Binding") (E_o1 : Exa Z h0 o1 "com/example/lessor/lessor/namespace/FileType") (F_type_o0 : Fld Z h0 o0 "com/example/lessor/lessor/namespace/Binding" "type" "Lcom/example/lessor/lessor/namespace/FileType;" u_type_o0) (g_o0 : n0 ≤ o0) (F_identifier_o0 : Fld Z h0 o0 "com/example/lessor/lessor/namespace/Binding" "identifier" "J" u_identifier_o0) :
    MetFree l (⟨"com/example/lessor/lessor/namespace/Binding", "<init>", "(Lcom/example/lessor/lessor/namespace/FileType;J)V"⟩ : MethodName) (head1 (Jvm.Cond.code (⟨"com/example/lessor/lessor/namespace/Binding", "<init>", "(Lcom/example/lessor/lessor/namespace/FileType;J)V"⟩ : MethodName) prog_13_method_1_code 4 none :: ws) ({ frames := 1, cells := 0, slots := 0, locals := 13 } : Room)) (fun a U => a = #[(.ref o0), (.ref o1), (.long q2)] ∧ Z.Warmed39 U.vm ∧ U.heap = h0) (fun _ _ _ _ _ => True) (fun _ U o U' => ∃ v L, o = .returned v ∧ Q_rmBinding Z o0 o1 q2 u_type_o0 u_identifier_o0 h0 n0 v U'.heap L ∧ FrameEnd U o U' L ({ frames := 1, cells := 0, slots := 0, locals := 13 } : Room).cells ({ frames := 1, cells := 0, slots := 0, locals := 13 } : Room).slots) := by
  refine MetFree.of_bodySF (plainFor_of_name pn_com_example_lessor_lessor_namespace_Binding) hisR ?_
  intro p e s m args below meth c s₁ Bd hml0 hP hK
  obtain ⟨rfl, hZ, hh⟩ := hP
  have hx := Bd.exec
  have hby := Bd.bytes
  have hml : c.maxLocals = 4 := hml0
  have hown : s.vm.findClass "com/example/lessor/lessor/namespace/Binding" = some m.cls := findClass_of_methodNamed Bd.named
  have hnm := (name_of_methodNamed Bd.named Bd.method).1
  have X0 : Stand p l e ({ frames := 1, cells := 0, slots := 0, locals := 13 } : Room) s m #[(.ref o0), (.ref o1), (.long q2)] below meth c s₁ [] 0 0 := Stand.of_body Bd
  have e0 : s₁.heap = h0 := by rw [← hh, Bd.state]; rfl
  have N0 := Fr.nil n0
  have pre0 : ∀ t, Steps p.tables e below (s₁.setTop (mkF m 0 #[.val (.ref o0), .val (.ref o1), .val (.long q2), .second] [])) t → Steps p.tables e below (s₁.setTop (entryFrame m #[(.ref o0), (.ref o1), (.long q2)] 4)) t := fun t k => castTop (ef_prog_13_method_1_code m o0 o1 q2) k
  obtain ⟨T1, X1, e1, st1⟩ := initO X0 hx hZ hown (hw _ (List.mem_of_getElem? (i := 15) rfl)) (hw _ (List.mem_of_getElem? (i := 16) rfl)) (hw _ (List.mem_of_getElem? (i := 17) rfl)) e0 (g := (mkF m 1 #[.val (.ref o0), .val (.ref o1), .val (.long q2), .second] [(.ref o0)])) rfl (by rw [hml]; rfl) rfl (hb hby d_prog_13_method_1_code_1) (by decide) (W := 0) (by show 2 * 0 + _ ≤ _; exact Nat.le_of_eq rfl) (by decide)
  obtain ⟨_, _, ⟨T2, L2, k2, n2⟩, -, X2, ⟨Lc2, hQ2, l2, y2, z2⟩, st2⟩ := Jvm.LawKit.callS X1 hx (y := (⟨"java/util/Objects", "requireNonNull", "(Ljava/lang/Object;)Ljava/lang/Object;"⟩ : MethodName)) hown (mvT hZ (hw _ (List.mem_of_getElem? (i := 18) rfl))) (mvT hZ (hw _ (List.mem_of_getElem? (i := 19) rfl))) (mvT hZ (hw _ (List.mem_of_getElem? (i := 20) rfl))) (mvT hZ (hw _ (List.mem_of_getElem? (i := 21) rfl))) (by decide) (backOf (W := 1) (rmRNN l Z a0 hw [] o1 h0 n0 Z0) hZ (hw _ (List.mem_of_getElem? (i := 21) rfl)) (hw _ (List.mem_of_getElem? (i := 20) rfl)) (by decide) (by decide)) (g := (mkF m 6 #[.val (.ref o0), .val (.ref o1), .val (.long q2), .second] [(.ref o1), (.ref o0)])) rfl (by rw [hml]; rfl) (argsL := [(.ref o1)]) (rest := [(.ref o0)]) (lenOf pd__Ljava_lang_Object__Ljava_lang_Object_ rfl) rfl (by show 2 * 0 + _ ≤ _; exact Nat.le_of_eq rfl) (hb hby d_prog_13_method_1_code_6) (fun _ _ => ⟨rfl, e1, (by decide : 0 + 0 ≤ _), (by decide : 0 + 0 ≤ _)⟩)
  dsimp only [Pt.U, Pt.locs, Pt.cells, Pt.slots] at X2 l2 y2 z2 st2 hQ2
  subst l2 y2 z2
  obtain ⟨rfl, N2q, e2⟩ := hQ2
  have N2 := Fr.app N0 N2q
  obtain ⟨T3, X3, e3, st3⟩ := castY X2 hx hZ hown (hw _ (List.mem_of_getElem? (i := 22) rfl)) e2 (Ins.self E_o1) (g := (mkF m 9 #[.val (.ref o0), .val (.ref o1), .val (.long q2), .second] [(.ref o1), (.ref o0)])) rfl rfl (hb hby d_prog_13_method_1_code_9)
  obtain ⟨T4, h4, X4, e4, W4, st4⟩ := putF X3 hx hZ hown (host := "") (Or.inl (hw _ (List.mem_of_getElem? (i := 24) rfl))) Via.refl e3 F_type_o0 E_o0 (Or.inr ⟨(hw _ (List.mem_of_getElem? (i := 25) rfl)), rfl, hnm⟩) (hw _ (List.mem_of_getElem? (i := 10) rfl)) (ty := (.object "com/example/lessor/lessor/namespace/FileType")) (by decide) rfl rfl (g := (mkF m 12 #[.val (.ref o0), .val (.ref o1), .val (.long q2), .second] [(.ref o1), (.ref o0)])) rfl rfl (hb hby d_prog_13_method_1_code_12)
  have Fw4 := F_type_o0.same W4
  have K5 : Keep h0 h4 [o0] := (Keep.refl h0 [o0]).wr W4 (Or.inl (List.mem_of_getElem? (i := 0) rfl))
  have N4 := Fr.snoc X4 N2 g_o0
  obtain ⟨T6, h6, X6, e6, W6, st6⟩ := putF X4 hx hZ hown (host := "") (Or.inl (hw _ (List.mem_of_getElem? (i := 26) rfl))) Via.refl e4 (F_identifier_o0.other W4 (Or.inr (slot_ne (Or.inr (hw _ (List.mem_of_getElem? (i := 27) rfl))) (Or.inr (hw _ (List.mem_of_getElem? (i := 25) rfl))) (by decide) (t := .long) (t' := (.object "com/example/lessor/lessor/namespace/FileType")) (by decide) (by decide)))) (E_o0.wr W4) (Or.inr ⟨(hw _ (List.mem_of_getElem? (i := 27) rfl)), rfl, hnm⟩) (hw _ (List.mem_of_getElem? (i := 10) rfl)) (ty := .long) (by decide) rfl rfl (g := (mkF m 17 #[.val (.ref o0), .val (.ref o1), .val (.long q2), .second] [(.long q2), (.ref o0)])) rfl rfl (hb hby d_prog_13_method_1_code_17)
  have Fw6 := (F_identifier_o0.other W4 (Or.inr (slot_ne (Or.inr (hw _ (List.mem_of_getElem? (i := 27) rfl))) (Or.inr (hw _ (List.mem_of_getElem? (i := 25) rfl))) (by decide) (t := .long) (t' := (.object "com/example/lessor/lessor/namespace/FileType")) (by decide) (by decide)))).same W6
  have K7 : Keep h0 h6 [o0] := K5.wr W6 (Or.inl (List.mem_of_getElem? (i := 0) rfl))
  have N6 := Fr.snoc X6 N4 g_o0
  obtain ⟨fs, hr, hrun, hended, hW, hsame⟩ := X6.leave (v := none) (fun _ => rfl)
  refine ⟨_, _, pre0 _ ?_, hrun, hended, _, _, rfl, ?_, ⟨_, rfl⟩, hW, hsame.mono (by decide) (by decide)⟩
  · show Steps p.tables e below (s₁.setTop (mkF m 0 #[.val (.ref o0), .val (.ref o1), .val (.long q2), .second] [])) _
    refine XS.aloadN X0.here hx rfl (hb hby d_prog_13_method_1_code_0) rfl rfl ?_
    show Steps p.tables e below (s₁.setTop (mkF m 1 #[.val (.ref o0), .val (.ref o1), .val (.long q2), .second] [(.ref o0)])) _
    refine st1 _ ?_
    show Steps p.tables e below (T1.setTop (mkF m 4 #[.val (.ref o0), .val (.ref o1), .val (.long q2), .second] [])) _
    refine XS.aloadN X1.here hx rfl (hb hby d_prog_13_method_1_code_4) rfl rfl ?_
    show Steps p.tables e below (T1.setTop (mkF m 5 #[.val (.ref o0), .val (.ref o1), .val (.long q2), .second] [(.ref o0)])) _
    refine XS.aloadN X1.here hx rfl (hb hby d_prog_13_method_1_code_5) rfl rfl ?_
    show Steps p.tables e below (T1.setTop (mkF m 6 #[.val (.ref o0), .val (.ref o1), .val (.long q2), .second] [(.ref o1), (.ref o0)])) _
    refine st2 _ ?_
    show Steps p.tables e below (T2.setTop (mkF m 9 #[.val (.ref o0), .val (.ref o1), .val (.long q2), .second] [(.ref o1), (.ref o0)])) _
    refine st3 _ ?_
    show Steps p.tables e below (T3.setTop (mkF m 12 #[.val (.ref o0), .val (.ref o1), .val (.long q2), .second] [(.ref o1), (.ref o0)])) _
    refine st4 _ ?_
    show Steps p.tables e below (T4.setTop (mkF m 15 #[.val (.ref o0), .val (.ref o1), .val (.long q2), .second] [])) _
    refine XS.aloadN X4.here hx rfl (hb hby d_prog_13_method_1_code_15) rfl rfl ?_
    show Steps p.tables e below (T4.setTop (mkF m 16 #[.val (.ref o0), .val (.ref o1), .val (.long q2), .second] [(.ref o0)])) _
    refine XS.lloadN X4.here hx rfl (hb hby d_prog_13_method_1_code_16) rfl ?_
    show Steps p.tables e below (T4.setTop (mkF m 17 #[.val (.ref o0), .val (.ref o1), .val (.long q2), .second] [(.long q2), (.ref o0)])) _
    refine st6 _ ?_
    show Steps p.tables e below (T6.setTop (mkF m 20 #[.val (.ref o0), .val (.ref o1), .val (.long q2), .second] [])) _
    exact X6.returnOut hx Bd.returns (hb hby d_prog_13_method_1_code_20) hr
  · show Q_rmBinding Z o0 o1 q2 u_type_o0 u_identifier_o0 h0 n0 _ T6.heap _
    rw [e6]
    exact ⟨rfl, N6, K7, ((E_o0.wr W4).wr W6), (Fw4.other W6 (Or.inr (slot_ne (Or.inr (hw _ (List.mem_of_getElem? (i := 25) rfl))) (Or.inr (hw _ (List.mem_of_getElem? (i := 27) rfl))) (by decide) (t := (.object "com/example/lessor/lessor/namespace/FileType")) (t' := .long) (by decide) (by decide)))), Fw6⟩
theorem d_prog_13_method_5_code_0 : decode prog_13_method_5_code 0 = .ok (.aload_n 1, 1) := by decide +kernel
theorem d_prog_13_method_5_code_1 : decode prog_13_method_5_code 1 = .ok (.instanceof 16, 3) := by decide +kernel
theorem d_prog_13_method_5_code_4 : decode prog_13_method_5_code 4 = .ok (.ifCond .eq 35, 3) := by decide +kernel
theorem d_prog_13_method_5_code_7 : decode prog_13_method_5_code 7 = .ok (.aload_n 1, 1) := by decide +kernel
theorem d_prog_13_method_5_code_8 : decode prog_13_method_5_code 8 = .ok (.checkcast 16, 3) := by decide +kernel
theorem d_prog_13_method_5_code_11 : decode prog_13_method_5_code 11 = .ok (.astore_n 2, 1) := by decide +kernel
theorem d_prog_13_method_5_code_12 : decode prog_13_method_5_code 12 = .ok (.aload_n 0, 1) := by decide +kernel
theorem d_prog_13_method_5_code_13 : decode prog_13_method_5_code 13 = .ok (.getfield 15, 3) := by decide +kernel
theorem d_prog_13_method_5_code_16 : decode prog_13_method_5_code 16 = .ok (.aload_n 2, 1) := by decide +kernel
theorem d_prog_13_method_5_code_17 : decode prog_13_method_5_code 17 = .ok (.getfield 15, 3) := by decide +kernel
theorem d_prog_13_method_5_code_20 : decode prog_13_method_5_code 20 = .ok (.if_acmp .ne 19, 3) := by decide +kernel
theorem d_prog_13_method_5_code_23 : decode prog_13_method_5_code 23 = .ok (.aload_n 0, 1) := by decide +kernel
theorem d_prog_13_method_5_code_24 : decode prog_13_method_5_code 24 = .ok (.getfield 21, 3) := by decide +kernel
theorem d_prog_13_method_5_code_27 : decode prog_13_method_5_code 27 = .ok (.aload_n 2, 1) := by decide +kernel
theorem d_prog_13_method_5_code_28 : decode prog_13_method_5_code 28 = .ok (.getfield 21, 3) := by decide +kernel
theorem d_prog_13_method_5_code_31 : decode prog_13_method_5_code 31 = .ok (.lcmp, 1) := by decide +kernel
theorem d_prog_13_method_5_code_32 : decode prog_13_method_5_code 32 = .ok (.ifCond .ne 7, 3) := by decide +kernel
theorem d_prog_13_method_5_code_35 : decode prog_13_method_5_code 35 = .ok (.iconst 1, 1) := by decide +kernel
theorem d_prog_13_method_5_code_36 : decode prog_13_method_5_code 36 = .ok (.goto 4, 3) := by decide +kernel
theorem d_prog_13_method_5_code_40 : decode prog_13_method_5_code 40 = .ok (.ireturn, 1) := by decide +kernel
theorem ef_prog_13_method_5_code (m : MethodId) (o0 : Addr) (o1 : Addr) : entryFrame m #[(.ref o0), (.ref o1)] 3 = mkF m 0 #[.val (.ref o0), .val (.ref o1), .unset] [] := by first | (simp [entryFrame, mkF, argsToLocals, Value.category]; done) | rfl
def Q_rmEq_tf (Z : State) (o0 : Addr) (o1 : Addr) (type_o0 : Addr) (type_o1 : Addr) (identifier_o0 : Int64) (identifier_o1 : Int64) (h0 : Heap) (n0 : Nat) (v : Option Value) (h : Heap) (L : List Loc) : Prop := v = some (.int (1 : Int32)) ∧ Fr n0 L ∧ h = h0
set_option maxRecDepth 65536 in
set_option maxHeartbeats 40000000 in
theorem rmEq_tf (l : Launch) (Z : State) (a0 : Array Value) (hw : ∀ d ∈ tables_1, d.before a0 Z = true) (ws : List Jvm.Cond) (o0 : Addr) (o1 : Addr) (type_o0 : Addr) (type_o1 : Addr) (identifier_o0 : Int64) (identifier_o1 : Int64) (h0 : Heap) (n0 : Nat) (Z0 : n0 ≤ h0.size) (E_o1 : Exa Z h0 o1 "com/example/lessor/lessor/namespace/Binding") (F_type_o0 : Fld Z h0 o0 "com/example/lessor/lessor/namespace/Binding" "type" "Lcom/example/lessor/lessor/namespace/FileType;" (.ref type_o0)) (F_type_o1 : Fld Z h0 o1 "com/example/lessor/lessor/namespace/Binding" "type" "Lcom/example/lessor/lessor/namespace/FileType;" (.ref type_o1)) (ha20 : type_o0 = type_o1) (F_identifier_o0 : Fld Z h0 o0 "com/example/lessor/lessor/namespace/Binding" "identifier" "J" (.long identifier_o0)) (F_identifier_o1 : Fld Z h0 o1 "com/example/lessor/lessor/namespace/Binding" "identifier" "J" (.long identifier_o1)) (hc32 : identifier_o0 = identifier_o1) :
    MetFree l (⟨"com/example/lessor/lessor/namespace/Binding", "equals", "(Ljava/lang/Object;)Z"⟩ : MethodName) (head1 (Jvm.Cond.code (⟨"com/example/lessor/lessor/namespace/Binding", "equals", "(Ljava/lang/Object;)Z"⟩ : MethodName) prog_13_method_5_code 3 (some .boolean) :: ws) ({ frames := 0, cells := 0, slots := 0, locals := 0 } : Room)) (fun a U => a = #[(.ref o0), (.ref o1)] ∧ Z.Warmed39 U.vm ∧ U.heap = h0) (fun _ _ _ _ _ => True) (fun _ U o U' => ∃ v L, o = .returned v ∧ Q_rmEq_tf Z o0 o1 type_o0 type_o1 identifier_o0 identifier_o1 h0 n0 v U'.heap L ∧ FrameEnd U o U' L ({ frames := 0, cells := 0, slots := 0, locals := 0 } : Room).cells ({ frames := 0, cells := 0, slots := 0, locals := 0 } : Room).slots) := by
  refine MetFree.of_bodySF (plainFor_of_name pn_com_example_lessor_lessor_namespace_Binding) hisR ?_
  intro p e s m args below meth c s₁ Bd hml0 hP hK
  obtain ⟨rfl, hZ, hh⟩ := hP
  have hx := Bd.exec
  have hby := Bd.bytes
  have hml : c.maxLocals = 3 := hml0
  have hown : s.vm.findClass "com/example/lessor/lessor/namespace/Binding" = some m.cls := findClass_of_methodNamed Bd.named
  have hnm := (name_of_methodNamed Bd.named Bd.method).1
  have X0 : Stand p l e ({ frames := 0, cells := 0, slots := 0, locals := 0 } : Room) s m #[(.ref o0), (.ref o1)] below meth c s₁ [] 0 0 := Stand.of_body Bd
  have e0 : s₁.heap = h0 := by rw [← hh, Bd.state]; rfl
  have N0 := Fr.nil n0
  have pre0 : ∀ t, Steps p.tables e below (s₁.setTop (mkF m 0 #[.val (.ref o0), .val (.ref o1), .unset] [])) t → Steps p.tables e below (s₁.setTop (entryFrame m #[(.ref o0), (.ref o1)] 3)) t := fun t k => castTop (ef_prog_13_method_5_code m o0 o1) k
  obtain ⟨T1, X1, e1, st1⟩ := instY X0 hx hZ hown (hw _ (List.mem_of_getElem? (i := 33) rfl)) e0 (Ins.self E_o1) (g := (mkF m 1 #[.val (.ref o0), .val (.ref o1), .unset] [(.ref o1)])) rfl rfl (hb hby d_prog_13_method_5_code_1)
  obtain ⟨T2, X2, e2, st2⟩ := castY X1 hx hZ hown (hw _ (List.mem_of_getElem? (i := 33) rfl)) e1 (Ins.self E_o1) (g := (mkF m 8 #[.val (.ref o0), .val (.ref o1), .unset] [(.ref o1)])) rfl rfl (hb hby d_prog_13_method_5_code_8)
  obtain ⟨T3, X3, e3, st3⟩ := getF X2 hx hZ hown (host := "") (Or.inl (hw _ (List.mem_of_getElem? (i := 24) rfl))) Via.refl e2 F_type_o0 (g := (mkF m 13 #[.val (.ref o0), .val (.ref o1), .val (.ref o1)] [(.ref o0)])) rfl rfl (hb hby d_prog_13_method_5_code_13)
  obtain ⟨T4, X4, e4, st4⟩ := getF X3 hx hZ hown (host := "") (Or.inl (hw _ (List.mem_of_getElem? (i := 24) rfl))) Via.refl e3 F_type_o1 (g := (mkF m 17 #[.val (.ref o0), .val (.ref o1), .val (.ref o1)] [(.ref o1), (.ref type_o0)])) rfl rfl (hb hby d_prog_13_method_5_code_17)
  obtain ⟨T5, X5, e5, st5⟩ := getF X4 hx hZ hown (host := "") (Or.inl (hw _ (List.mem_of_getElem? (i := 26) rfl))) Via.refl e4 F_identifier_o0 (g := (mkF m 24 #[.val (.ref o0), .val (.ref o1), .val (.ref o1)] [(.ref o0)])) rfl rfl (hb hby d_prog_13_method_5_code_24)
  obtain ⟨T6, X6, e6, st6⟩ := getF X5 hx hZ hown (host := "") (Or.inl (hw _ (List.mem_of_getElem? (i := 26) rfl))) Via.refl e5 F_identifier_o1 (g := (mkF m 28 #[.val (.ref o0), .val (.ref o1), .val (.ref o1)] [(.ref o1), (.long identifier_o0)])) rfl rfl (hb hby d_prog_13_method_5_code_28)
  obtain ⟨fs, hr, hrun, hended, hW, hsame⟩ := X6.leave (v := some (.int (1 : Int32))) (fun h => by rw [Bd.returns] at h; cases h)
  refine ⟨_, _, pre0 _ ?_, hrun, hended, _, _, rfl, ?_, ⟨_, rfl⟩, hW, hsame.mono (by decide) (by decide)⟩
  · show Steps p.tables e below (s₁.setTop (mkF m 0 #[.val (.ref o0), .val (.ref o1), .unset] [])) _
    refine XS.aloadN X0.here hx rfl (hb hby d_prog_13_method_5_code_0) rfl rfl ?_
    show Steps p.tables e below (s₁.setTop (mkF m 1 #[.val (.ref o0), .val (.ref o1), .unset] [(.ref o1)])) _
    refine st1 _ ?_
    show Steps p.tables e below (T1.setTop (mkF m 4 #[.val (.ref o0), .val (.ref o1), .unset] [(.int (1 : Int32))])) _
    refine XS.ifNo X1.here hx rfl (hb hby d_prog_13_method_5_code_4) rfl ((if0 _ _).trans (feq (by decide)).1) ?_
    show Steps p.tables e below (T1.setTop (mkF m 7 #[.val (.ref o0), .val (.ref o1), .unset] [])) _
    refine XS.aloadN X1.here hx rfl (hb hby d_prog_13_method_5_code_7) rfl rfl ?_
    show Steps p.tables e below (T1.setTop (mkF m 8 #[.val (.ref o0), .val (.ref o1), .unset] [(.ref o1)])) _
    refine st2 _ ?_
    show Steps p.tables e below (T2.setTop (mkF m 11 #[.val (.ref o0), .val (.ref o1), .unset] [(.ref o1)])) _
    refine XS.astoreN X2.here hx rfl (hb hby d_prog_13_method_5_code_11) rfl rfl (l' := #[.val (.ref o0), .val (.ref o1), .val (.ref o1)]) rfl ?_
    show Steps p.tables e below (T2.setTop (mkF m 12 #[.val (.ref o0), .val (.ref o1), .val (.ref o1)] [])) _
    refine XS.aloadN X2.here hx rfl (hb hby d_prog_13_method_5_code_12) rfl rfl ?_
    show Steps p.tables e below (T2.setTop (mkF m 13 #[.val (.ref o0), .val (.ref o1), .val (.ref o1)] [(.ref o0)])) _
    refine st3 _ ?_
    show Steps p.tables e below (T3.setTop (mkF m 16 #[.val (.ref o0), .val (.ref o1), .val (.ref o1)] [(.ref type_o0)])) _
    refine XS.aloadN X3.here hx rfl (hb hby d_prog_13_method_5_code_16) rfl rfl ?_
    show Steps p.tables e below (T3.setTop (mkF m 17 #[.val (.ref o0), .val (.ref o1), .val (.ref o1)] [(.ref o1), (.ref type_o0)])) _
    refine st4 _ ?_
    show Steps p.tables e below (T4.setTop (mkF m 20 #[.val (.ref o0), .val (.ref o1), .val (.ref o1)] [(.ref type_o1), (.ref type_o0)])) _
    refine Jvm.RoadKit.acmp (g := (mkF m 20 #[.val (.ref o0), .val (.ref o1), .val (.ref o1)] [(.ref type_o1), (.ref type_o0)])) X4 hx rfl rfl rfl (pc0 := 20) (pc' := 23) (same := true) rfl (hb hby d_prog_13_method_5_code_20) rfl (decide_eq_true (congrArg Value.ref ha20)) (by decide) (by decide) ?_
    show Steps p.tables e below (T4.setTop (mkF m 23 #[.val (.ref o0), .val (.ref o1), .val (.ref o1)] [])) _
    refine XS.aloadN X4.here hx rfl (hb hby d_prog_13_method_5_code_23) rfl rfl ?_
    show Steps p.tables e below (T4.setTop (mkF m 24 #[.val (.ref o0), .val (.ref o1), .val (.ref o1)] [(.ref o0)])) _
    refine st5 _ ?_
    show Steps p.tables e below (T5.setTop (mkF m 27 #[.val (.ref o0), .val (.ref o1), .val (.ref o1)] [(.long identifier_o0)])) _
    refine XS.aloadN X5.here hx rfl (hb hby d_prog_13_method_5_code_27) rfl rfl ?_
    show Steps p.tables e below (T5.setTop (mkF m 28 #[.val (.ref o0), .val (.ref o1), .val (.ref o1)] [(.ref o1), (.long identifier_o0)])) _
    refine st6 _ ?_
    show Steps p.tables e below (T6.setTop (mkF m 31 #[.val (.ref o0), .val (.ref o1), .val (.ref o1)] [(.long identifier_o1), (.long identifier_o0)])) _
    refine XS.lcmp X6.here hx rfl (hb hby d_prog_13_method_5_code_31) rfl ?_
    show Steps p.tables e below (T6.setTop (mkF m 32 #[.val (.ref o0), .val (.ref o1), .val (.ref o1)] [(.int (lcmpW identifier_o0 identifier_o1))])) _
    refine XS.ifNo X6.here hx rfl (hb hby d_prog_13_method_5_code_32) rfl ((if0 _ _).trans (teq ((lw_eq identifier_o0 identifier_o1).mpr hc32)).2) ?_
    show Steps p.tables e below (T6.setTop (mkF m 35 #[.val (.ref o0), .val (.ref o1), .val (.ref o1)] [])) _
    refine XS.iconst X6.here hx rfl (hb hby d_prog_13_method_5_code_35) ?_
    show Steps p.tables e below (T6.setTop (mkF m 36 #[.val (.ref o0), .val (.ref o1), .val (.ref o1)] [(.int (1 : Int32))])) _
    refine XS.goto X6.here hx rfl (pc0 := 36) (pc' := 40) rfl (hb hby d_prog_13_method_5_code_36) (by decide) (by decide) ?_
    show Steps p.tables e below (T6.setTop (mkF m 40 #[.val (.ref o0), .val (.ref o1), .val (.ref o1)] [(.int (1 : Int32))])) _
    exact retN X6 hx (t := .boolean) Bd.returns (by simp) (hb hby d_prog_13_method_5_code_40) hr
  · show Q_rmEq_tf Z o0 o1 type_o0 type_o1 identifier_o0 identifier_o1 h0 n0 _ T6.heap _
    rw [e6]
    exact ⟨rfl, N0, rfl⟩
theorem d_prog_13_method_5_code_39 : decode prog_13_method_5_code 39 = .ok (.iconst 0, 1) := by decide +kernel
def Q_rmEq_tt (Z : State) (o0 : Addr) (o1 : Addr) (type_o0 : Addr) (type_o1 : Addr) (identifier_o0 : Int64) (identifier_o1 : Int64) (h0 : Heap) (n0 : Nat) (v : Option Value) (h : Heap) (L : List Loc) : Prop := v = some (.int (0 : Int32)) ∧ Fr n0 L ∧ h = h0
set_option maxRecDepth 65536 in
set_option maxHeartbeats 40000000 in
theorem rmEq_tt (l : Launch) (Z : State) (a0 : Array Value) (hw : ∀ d ∈ tables_1, d.before a0 Z = true) (ws : List Jvm.Cond) (o0 : Addr) (o1 : Addr) (type_o0 : Addr) (type_o1 : Addr) (identifier_o0 : Int64) (identifier_o1 : Int64) (h0 : Heap) (n0 : Nat) (Z0 : n0 ≤ h0.size) (E_o1 : Exa Z h0 o1 "com/example/lessor/lessor/namespace/Binding") (F_type_o0 : Fld Z h0 o0 "com/example/lessor/lessor/namespace/Binding" "type" "Lcom/example/lessor/lessor/namespace/FileType;" (.ref type_o0)) (F_type_o1 : Fld Z h0 o1 "com/example/lessor/lessor/namespace/Binding" "type" "Lcom/example/lessor/lessor/namespace/FileType;" (.ref type_o1)) (ha20 : type_o0 = type_o1) (F_identifier_o0 : Fld Z h0 o0 "com/example/lessor/lessor/namespace/Binding" "identifier" "J" (.long identifier_o0)) (F_identifier_o1 : Fld Z h0 o1 "com/example/lessor/lessor/namespace/Binding" "identifier" "J" (.long identifier_o1)) (hc32 : ¬ (identifier_o0 = identifier_o1)) :
    MetFree l (⟨"com/example/lessor/lessor/namespace/Binding", "equals", "(Ljava/lang/Object;)Z"⟩ : MethodName) (head1 (Jvm.Cond.code (⟨"com/example/lessor/lessor/namespace/Binding", "equals", "(Ljava/lang/Object;)Z"⟩ : MethodName) prog_13_method_5_code 3 (some .boolean) :: ws) ({ frames := 0, cells := 0, slots := 0, locals := 0 } : Room)) (fun a U => a = #[(.ref o0), (.ref o1)] ∧ Z.Warmed39 U.vm ∧ U.heap = h0) (fun _ _ _ _ _ => True) (fun _ U o U' => ∃ v L, o = .returned v ∧ Q_rmEq_tt Z o0 o1 type_o0 type_o1 identifier_o0 identifier_o1 h0 n0 v U'.heap L ∧ FrameEnd U o U' L ({ frames := 0, cells := 0, slots := 0, locals := 0 } : Room).cells ({ frames := 0, cells := 0, slots := 0, locals := 0 } : Room).slots) := by
  refine MetFree.of_bodySF (plainFor_of_name pn_com_example_lessor_lessor_namespace_Binding) hisR ?_
  intro p e s m args below meth c s₁ Bd hml0 hP hK
  obtain ⟨rfl, hZ, hh⟩ := hP
  have hx := Bd.exec
  have hby := Bd.bytes
  have hml : c.maxLocals = 3 := hml0
  have hown : s.vm.findClass "com/example/lessor/lessor/namespace/Binding" = some m.cls := findClass_of_methodNamed Bd.named
  have hnm := (name_of_methodNamed Bd.named Bd.method).1
  have X0 : Stand p l e ({ frames := 0, cells := 0, slots := 0, locals := 0 } : Room) s m #[(.ref o0), (.ref o1)] below meth c s₁ [] 0 0 := Stand.of_body Bd
  have e0 : s₁.heap = h0 := by rw [← hh, Bd.state]; rfl
  have N0 := Fr.nil n0
  have pre0 : ∀ t, Steps p.tables e below (s₁.setTop (mkF m 0 #[.val (.ref o0), .val (.ref o1), .unset] [])) t → Steps p.tables e below (s₁.setTop (entryFrame m #[(.ref o0), (.ref o1)] 3)) t := fun t k => castTop (ef_prog_13_method_5_code m o0 o1) k
  obtain ⟨T1, X1, e1, st1⟩ := instY X0 hx hZ hown (hw _ (List.mem_of_getElem? (i := 33) rfl)) e0 (Ins.self E_o1) (g := (mkF m 1 #[.val (.ref o0), .val (.ref o1), .unset] [(.ref o1)])) rfl rfl (hb hby d_prog_13_method_5_code_1)
  obtain ⟨T2, X2, e2, st2⟩ := castY X1 hx hZ hown (hw _ (List.mem_of_getElem? (i := 33) rfl)) e1 (Ins.self E_o1) (g := (mkF m 8 #[.val (.ref o0), .val (.ref o1), .unset] [(.ref o1)])) rfl rfl (hb hby d_prog_13_method_5_code_8)
  obtain ⟨T3, X3, e3, st3⟩ := getF X2 hx hZ hown (host := "") (Or.inl (hw _ (List.mem_of_getElem? (i := 24) rfl))) Via.refl e2 F_type_o0 (g := (mkF m 13 #[.val (.ref o0), .val (.ref o1), .val (.ref o1)] [(.ref o0)])) rfl rfl (hb hby d_prog_13_method_5_code_13)
  obtain ⟨T4, X4, e4, st4⟩ := getF X3 hx hZ hown (host := "") (Or.inl (hw _ (List.mem_of_getElem? (i := 24) rfl))) Via.refl e3 F_type_o1 (g := (mkF m 17 #[.val (.ref o0), .val (.ref o1), .val (.ref o1)] [(.ref o1), (.ref type_o0)])) rfl rfl (hb hby d_prog_13_method_5_code_17)
  obtain ⟨T5, X5, e5, st5⟩ := getF X4 hx hZ hown (host := "") (Or.inl (hw _ (List.mem_of_getElem? (i := 26) rfl))) Via.refl e4 F_identifier_o0 (g := (mkF m 24 #[.val (.ref o0), .val (.ref o1), .val (.ref o1)] [(.ref o0)])) rfl rfl (hb hby d_prog_13_method_5_code_24)
  obtain ⟨T6, X6, e6, st6⟩ := getF X5 hx hZ hown (host := "") (Or.inl (hw _ (List.mem_of_getElem? (i := 26) rfl))) Via.refl e5 F_identifier_o1 (g := (mkF m 28 #[.val (.ref o0), .val (.ref o1), .val (.ref o1)] [(.ref o1), (.long identifier_o0)])) rfl rfl (hb hby d_prog_13_method_5_code_28)
  obtain ⟨fs, hr, hrun, hended, hW, hsame⟩ := X6.leave (v := some (.int (0 : Int32))) (fun h => by rw [Bd.returns] at h; cases h)
  refine ⟨_, _, pre0 _ ?_, hrun, hended, _, _, rfl, ?_, ⟨_, rfl⟩, hW, hsame.mono (by decide) (by decide)⟩
  · show Steps p.tables e below (s₁.setTop (mkF m 0 #[.val (.ref o0), .val (.ref o1), .unset] [])) _
    refine XS.aloadN X0.here hx rfl (hb hby d_prog_13_method_5_code_0) rfl rfl ?_
    show Steps p.tables e below (s₁.setTop (mkF m 1 #[.val (.ref o0), .val (.ref o1), .unset] [(.ref o1)])) _
    refine st1 _ ?_
    show Steps p.tables e below (T1.setTop (mkF m 4 #[.val (.ref o0), .val (.ref o1), .unset] [(.int (1 : Int32))])) _
    refine XS.ifNo X1.here hx rfl (hb hby d_prog_13_method_5_code_4) rfl ((if0 _ _).trans (feq (by decide)).1) ?_
    show Steps p.tables e below (T1.setTop (mkF m 7 #[.val (.ref o0), .val (.ref o1), .unset] [])) _
    refine XS.aloadN X1.here hx rfl (hb hby d_prog_13_method_5_code_7) rfl rfl ?_
    show Steps p.tables e below (T1.setTop (mkF m 8 #[.val (.ref o0), .val (.ref o1), .unset] [(.ref o1)])) _
    refine st2 _ ?_
    show Steps p.tables e below (T2.setTop (mkF m 11 #[.val (.ref o0), .val (.ref o1), .unset] [(.ref o1)])) _
    refine XS.astoreN X2.here hx rfl (hb hby d_prog_13_method_5_code_11) rfl rfl (l' := #[.val (.ref o0), .val (.ref o1), .val (.ref o1)]) rfl ?_
    show Steps p.tables e below (T2.setTop (mkF m 12 #[.val (.ref o0), .val (.ref o1), .val (.ref o1)] [])) _
    refine XS.aloadN X2.here hx rfl (hb hby d_prog_13_method_5_code_12) rfl rfl ?_
    show Steps p.tables e below (T2.setTop (mkF m 13 #[.val (.ref o0), .val (.ref o1), .val (.ref o1)] [(.ref o0)])) _
    refine st3 _ ?_
    show Steps p.tables e below (T3.setTop (mkF m 16 #[.val (.ref o0), .val (.ref o1), .val (.ref o1)] [(.ref type_o0)])) _
    refine XS.aloadN X3.here hx rfl (hb hby d_prog_13_method_5_code_16) rfl rfl ?_
    show Steps p.tables e below (T3.setTop (mkF m 17 #[.val (.ref o0), .val (.ref o1), .val (.ref o1)] [(.ref o1), (.ref type_o0)])) _
    refine st4 _ ?_
    show Steps p.tables e below (T4.setTop (mkF m 20 #[.val (.ref o0), .val (.ref o1), .val (.ref o1)] [(.ref type_o1), (.ref type_o0)])) _
    refine Jvm.RoadKit.acmp (g := (mkF m 20 #[.val (.ref o0), .val (.ref o1), .val (.ref o1)] [(.ref type_o1), (.ref type_o0)])) X4 hx rfl rfl rfl (pc0 := 20) (pc' := 23) (same := true) rfl (hb hby d_prog_13_method_5_code_20) rfl (decide_eq_true (congrArg Value.ref ha20)) (by decide) (by decide) ?_
    show Steps p.tables e below (T4.setTop (mkF m 23 #[.val (.ref o0), .val (.ref o1), .val (.ref o1)] [])) _
    refine XS.aloadN X4.here hx rfl (hb hby d_prog_13_method_5_code_23) rfl rfl ?_
    show Steps p.tables e below (T4.setTop (mkF m 24 #[.val (.ref o0), .val (.ref o1), .val (.ref o1)] [(.ref o0)])) _
    refine st5 _ ?_
    show Steps p.tables e below (T5.setTop (mkF m 27 #[.val (.ref o0), .val (.ref o1), .val (.ref o1)] [(.long identifier_o0)])) _
    refine XS.aloadN X5.here hx rfl (hb hby d_prog_13_method_5_code_27) rfl rfl ?_
    show Steps p.tables e below (T5.setTop (mkF m 28 #[.val (.ref o0), .val (.ref o1), .val (.ref o1)] [(.ref o1), (.long identifier_o0)])) _
    refine st6 _ ?_
    show Steps p.tables e below (T6.setTop (mkF m 31 #[.val (.ref o0), .val (.ref o1), .val (.ref o1)] [(.long identifier_o1), (.long identifier_o0)])) _
    refine XS.lcmp X6.here hx rfl (hb hby d_prog_13_method_5_code_31) rfl ?_
    show Steps p.tables e below (T6.setTop (mkF m 32 #[.val (.ref o0), .val (.ref o1), .val (.ref o1)] [(.int (lcmpW identifier_o0 identifier_o1))])) _
    refine XS.ifYes X6.here hx rfl (pc0 := 32) (pc' := 39) rfl (hb hby d_prog_13_method_5_code_32) rfl ((if0 _ _).trans (feq (fun q => hc32 ((lw_eq identifier_o0 identifier_o1).mp q))).2) (by decide) (by decide) ?_
    show Steps p.tables e below (T6.setTop (mkF m 39 #[.val (.ref o0), .val (.ref o1), .val (.ref o1)] [])) _
    refine XS.iconst X6.here hx rfl (hb hby d_prog_13_method_5_code_39) ?_
    show Steps p.tables e below (T6.setTop (mkF m 40 #[.val (.ref o0), .val (.ref o1), .val (.ref o1)] [(.int (0 : Int32))])) _
    exact retN X6 hx (t := .boolean) Bd.returns (by simp) (hb hby d_prog_13_method_5_code_40) hr
  · show Q_rmEq_tt Z o0 o1 type_o0 type_o1 identifier_o0 identifier_o1 h0 n0 _ T6.heap _
    rw [e6]
    exact ⟨rfl, N0, rfl⟩
def Q_rmEq_f (Z : State) (o0 : Addr) (o1 : Addr) (type_o0 : Addr) (type_o1 : Addr) (h0 : Heap) (n0 : Nat) (v : Option Value) (h : Heap) (L : List Loc) : Prop := v = some (.int (0 : Int32)) ∧ Fr n0 L ∧ h = h0
set_option maxRecDepth 65536 in
set_option maxHeartbeats 40000000 in
theorem rmEq_f (l : Launch) (Z : State) (a0 : Array Value) (hw : ∀ d ∈ tables_1, d.before a0 Z = true) (ws : List Jvm.Cond) (o0 : Addr) (o1 : Addr) (type_o0 : Addr) (type_o1 : Addr) (h0 : Heap) (n0 : Nat) (Z0 : n0 ≤ h0.size) (E_o1 : Exa Z h0 o1 "com/example/lessor/lessor/namespace/Binding") (F_type_o0 : Fld Z h0 o0 "com/example/lessor/lessor/namespace/Binding" "type" "Lcom/example/lessor/lessor/namespace/FileType;" (.ref type_o0)) (F_type_o1 : Fld Z h0 o1 "com/example/lessor/lessor/namespace/Binding" "type" "Lcom/example/lessor/lessor/namespace/FileType;" (.ref type_o1)) (ha20 : ¬ (type_o0 = type_o1)) :
    MetFree l (⟨"com/example/lessor/lessor/namespace/Binding", "equals", "(Ljava/lang/Object;)Z"⟩ : MethodName) (head1 (Jvm.Cond.code (⟨"com/example/lessor/lessor/namespace/Binding", "equals", "(Ljava/lang/Object;)Z"⟩ : MethodName) prog_13_method_5_code 3 (some .boolean) :: ws) ({ frames := 0, cells := 0, slots := 0, locals := 0 } : Room)) (fun a U => a = #[(.ref o0), (.ref o1)] ∧ Z.Warmed39 U.vm ∧ U.heap = h0) (fun _ _ _ _ _ => True) (fun _ U o U' => ∃ v L, o = .returned v ∧ Q_rmEq_f Z o0 o1 type_o0 type_o1 h0 n0 v U'.heap L ∧ FrameEnd U o U' L ({ frames := 0, cells := 0, slots := 0, locals := 0 } : Room).cells ({ frames := 0, cells := 0, slots := 0, locals := 0 } : Room).slots) := by
  refine MetFree.of_bodySF (plainFor_of_name pn_com_example_lessor_lessor_namespace_Binding) hisR ?_
  intro p e s m args below meth c s₁ Bd hml0 hP hK
  obtain ⟨rfl, hZ, hh⟩ := hP
  have hx := Bd.exec
  have hby := Bd.bytes
  have hml : c.maxLocals = 3 := hml0
  have hown : s.vm.findClass "com/example/lessor/lessor/namespace/Binding" = some m.cls := findClass_of_methodNamed Bd.named
  have hnm := (name_of_methodNamed Bd.named Bd.method).1
  have X0 : Stand p l e ({ frames := 0, cells := 0, slots := 0, locals := 0 } : Room) s m #[(.ref o0), (.ref o1)] below meth c s₁ [] 0 0 := Stand.of_body Bd
  have e0 : s₁.heap = h0 := by rw [← hh, Bd.state]; rfl
  have N0 := Fr.nil n0
  have pre0 : ∀ t, Steps p.tables e below (s₁.setTop (mkF m 0 #[.val (.ref o0), .val (.ref o1), .unset] [])) t → Steps p.tables e below (s₁.setTop (entryFrame m #[(.ref o0), (.ref o1)] 3)) t := fun t k => castTop (ef_prog_13_method_5_code m o0 o1) k
  obtain ⟨T1, X1, e1, st1⟩ := instY X0 hx hZ hown (hw _ (List.mem_of_getElem? (i := 33) rfl)) e0 (Ins.self E_o1) (g := (mkF m 1 #[.val (.ref o0), .val (.ref o1), .unset] [(.ref o1)])) rfl rfl (hb hby d_prog_13_method_5_code_1)
  obtain ⟨T2, X2, e2, st2⟩ := castY X1 hx hZ hown (hw _ (List.mem_of_getElem? (i := 33) rfl)) e1 (Ins.self E_o1) (g := (mkF m 8 #[.val (.ref o0), .val (.ref o1), .unset] [(.ref o1)])) rfl rfl (hb hby d_prog_13_method_5_code_8)
  obtain ⟨T3, X3, e3, st3⟩ := getF X2 hx hZ hown (host := "") (Or.inl (hw _ (List.mem_of_getElem? (i := 24) rfl))) Via.refl e2 F_type_o0 (g := (mkF m 13 #[.val (.ref o0), .val (.ref o1), .val (.ref o1)] [(.ref o0)])) rfl rfl (hb hby d_prog_13_method_5_code_13)
  obtain ⟨T4, X4, e4, st4⟩ := getF X3 hx hZ hown (host := "") (Or.inl (hw _ (List.mem_of_getElem? (i := 24) rfl))) Via.refl e3 F_type_o1 (g := (mkF m 17 #[.val (.ref o0), .val (.ref o1), .val (.ref o1)] [(.ref o1), (.ref type_o0)])) rfl rfl (hb hby d_prog_13_method_5_code_17)
  obtain ⟨fs, hr, hrun, hended, hW, hsame⟩ := X4.leave (v := some (.int (0 : Int32))) (fun h => by rw [Bd.returns] at h; cases h)
  refine ⟨_, _, pre0 _ ?_, hrun, hended, _, _, rfl, ?_, ⟨_, rfl⟩, hW, hsame.mono (by decide) (by decide)⟩
  · show Steps p.tables e below (s₁.setTop (mkF m 0 #[.val (.ref o0), .val (.ref o1), .unset] [])) _
    refine XS.aloadN X0.here hx rfl (hb hby d_prog_13_method_5_code_0) rfl rfl ?_
    show Steps p.tables e below (s₁.setTop (mkF m 1 #[.val (.ref o0), .val (.ref o1), .unset] [(.ref o1)])) _
    refine st1 _ ?_
    show Steps p.tables e below (T1.setTop (mkF m 4 #[.val (.ref o0), .val (.ref o1), .unset] [(.int (1 : Int32))])) _
    refine XS.ifNo X1.here hx rfl (hb hby d_prog_13_method_5_code_4) rfl ((if0 _ _).trans (feq (by decide)).1) ?_
    show Steps p.tables e below (T1.setTop (mkF m 7 #[.val (.ref o0), .val (.ref o1), .unset] [])) _
    refine XS.aloadN X1.here hx rfl (hb hby d_prog_13_method_5_code_7) rfl rfl ?_
    show Steps p.tables e below (T1.setTop (mkF m 8 #[.val (.ref o0), .val (.ref o1), .unset] [(.ref o1)])) _
    refine st2 _ ?_
    show Steps p.tables e below (T2.setTop (mkF m 11 #[.val (.ref o0), .val (.ref o1), .unset] [(.ref o1)])) _
    refine XS.astoreN X2.here hx rfl (hb hby d_prog_13_method_5_code_11) rfl rfl (l' := #[.val (.ref o0), .val (.ref o1), .val (.ref o1)]) rfl ?_
    show Steps p.tables e below (T2.setTop (mkF m 12 #[.val (.ref o0), .val (.ref o1), .val (.ref o1)] [])) _
    refine XS.aloadN X2.here hx rfl (hb hby d_prog_13_method_5_code_12) rfl rfl ?_
    show Steps p.tables e below (T2.setTop (mkF m 13 #[.val (.ref o0), .val (.ref o1), .val (.ref o1)] [(.ref o0)])) _
    refine st3 _ ?_
    show Steps p.tables e below (T3.setTop (mkF m 16 #[.val (.ref o0), .val (.ref o1), .val (.ref o1)] [(.ref type_o0)])) _
    refine XS.aloadN X3.here hx rfl (hb hby d_prog_13_method_5_code_16) rfl rfl ?_
    show Steps p.tables e below (T3.setTop (mkF m 17 #[.val (.ref o0), .val (.ref o1), .val (.ref o1)] [(.ref o1), (.ref type_o0)])) _
    refine st4 _ ?_
    show Steps p.tables e below (T4.setTop (mkF m 20 #[.val (.ref o0), .val (.ref o1), .val (.ref o1)] [(.ref type_o1), (.ref type_o0)])) _
    refine Jvm.RoadKit.acmp (g := (mkF m 20 #[.val (.ref o0), .val (.ref o1), .val (.ref o1)] [(.ref type_o1), (.ref type_o0)])) X4 hx rfl rfl rfl (pc0 := 20) (pc' := 39) (same := false) rfl (hb hby d_prog_13_method_5_code_20) rfl (decide_eq_false fun q => ha20 (Value.ref.inj q)) (by decide) (by decide) ?_
    show Steps p.tables e below (T4.setTop (mkF m 39 #[.val (.ref o0), .val (.ref o1), .val (.ref o1)] [])) _
    refine XS.iconst X4.here hx rfl (hb hby d_prog_13_method_5_code_39) ?_
    show Steps p.tables e below (T4.setTop (mkF m 40 #[.val (.ref o0), .val (.ref o1), .val (.ref o1)] [(.int (0 : Int32))])) _
    exact retN X4 hx (t := .boolean) Bd.returns (by simp) (hb hby d_prog_13_method_5_code_40) hr
  · show Q_rmEq_f Z o0 o1 type_o0 type_o1 h0 n0 _ T4.heap _
    rw [e4]
    exact ⟨rfl, N0, rfl⟩
theorem ef_prog_13_method_5_coden (m : MethodId) (o0 : Addr) : entryFrame m #[(.ref o0), .null] 3 = mkF m 0 #[.val (.ref o0), .val .null, .unset] [] := by first | (simp [entryFrame, mkF, argsToLocals, Value.category]; done) | rfl
def Q_rmEq_null (Z : State) (o0 : Addr) (h0 : Heap) (n0 : Nat) (v : Option Value) (h : Heap) (L : List Loc) : Prop := v = some (.int (0 : Int32)) ∧ Fr n0 L ∧ h = h0
set_option maxRecDepth 65536 in
set_option maxHeartbeats 40000000 in
theorem rmEq_null (l : Launch) (Z : State) (a0 : Array Value) (hw : ∀ d ∈ tables_1, d.before a0 Z = true) (ws : List Jvm.Cond) (o0 : Addr) (h0 : Heap) (n0 : Nat) (Z0 : n0 ≤ h0.size) :
    MetFree l (⟨"com/example/lessor/lessor/namespace/Binding", "equals", "(Ljava/lang/Object;)Z"⟩ : MethodName) (head1 (Jvm.Cond.code (⟨"com/example/lessor/lessor/namespace/Binding", "equals", "(Ljava/lang/Object;)Z"⟩ : MethodName) prog_13_method_5_code 3 (some .boolean) :: ws) ({ frames := 0, cells := 0, slots := 0, locals := 0 } : Room)) (fun a U => a = #[(.ref o0), .null] ∧ Z.Warmed39 U.vm ∧ U.heap = h0) (fun _ _ _ _ _ => True) (fun _ U o U' => ∃ v L, o = .returned v ∧ Q_rmEq_null Z o0 h0 n0 v U'.heap L ∧ FrameEnd U o U' L ({ frames := 0, cells := 0, slots := 0, locals := 0 } : Room).cells ({ frames := 0, cells := 0, slots := 0, locals := 0 } : Room).slots) := by
  refine MetFree.of_bodySF (plainFor_of_name pn_com_example_lessor_lessor_namespace_Binding) hisR ?_
  intro p e s m args below meth c s₁ Bd hml0 hP hK
  obtain ⟨rfl, hZ, hh⟩ := hP
  have hx := Bd.exec
  have hby := Bd.bytes
  have hml : c.maxLocals = 3 := hml0
  have hown : s.vm.findClass "com/example/lessor/lessor/namespace/Binding" = some m.cls := findClass_of_methodNamed Bd.named
  have hnm := (name_of_methodNamed Bd.named Bd.method).1
  have X0 : Stand p l e ({ frames := 0, cells := 0, slots := 0, locals := 0 } : Room) s m #[(.ref o0), .null] below meth c s₁ [] 0 0 := Stand.of_body Bd
  have e0 : s₁.heap = h0 := by rw [← hh, Bd.state]; rfl
  have N0 := Fr.nil n0
  have pre0 : ∀ t, Steps p.tables e below (s₁.setTop (mkF m 0 #[.val (.ref o0), .val .null, .unset] [])) t → Steps p.tables e below (s₁.setTop (entryFrame m #[(.ref o0), .null] 3)) t := fun t k => castTop (ef_prog_13_method_5_coden m o0) k
  obtain ⟨fs, hr, hrun, hended, hW, hsame⟩ := X0.leave (v := some (.int (0 : Int32))) (fun h => by rw [Bd.returns] at h; cases h)
  refine ⟨_, _, pre0 _ ?_, hrun, hended, _, _, rfl, ?_, ⟨_, rfl⟩, hW, hsame.mono (by decide) (by decide)⟩
  · show Steps p.tables e below (s₁.setTop (mkF m 0 #[.val (.ref o0), .val .null, .unset] [])) _
    refine XS.aloadN X0.here hx rfl (hb hby d_prog_13_method_5_code_0) rfl rfl ?_
    show Steps p.tables e below (s₁.setTop (mkF m 1 #[.val (.ref o0), .val .null, .unset] [.null])) _
    refine X0.instanceofNull hx (g := (mkF m 1 #[.val (.ref o0), .val .null, .unset] [.null])) rfl rfl (hb hby d_prog_13_method_5_code_1) _ ?_
    show Steps p.tables e below (s₁.setTop (mkF m 4 #[.val (.ref o0), .val .null, .unset] [(.int (0 : Int32))])) _
    refine XS.ifYes X0.here hx rfl (pc0 := 4) (pc' := 39) rfl (hb hby d_prog_13_method_5_code_4) rfl ((if0 _ _).trans (teq (by decide)).1) (by decide) (by decide) ?_
    show Steps p.tables e below (s₁.setTop (mkF m 39 #[.val (.ref o0), .val .null, .unset] [])) _
    refine XS.iconst X0.here hx rfl (hb hby d_prog_13_method_5_code_39) ?_
    show Steps p.tables e below (s₁.setTop (mkF m 40 #[.val (.ref o0), .val .null, .unset] [(.int (0 : Int32))])) _
    exact retN X0 hx (t := .boolean) Bd.returns (by simp) (hb hby d_prog_13_method_5_code_40) hr
  · show Q_rmEq_null Z o0 h0 n0 _ s₁.heap _
    rw [e0]
    exact ⟨rfl, N0, rfl⟩
def Q_rmEq_long (Z : State) (o0 : Addr) (o1 : Addr) (h0 : Heap) (n0 : Nat) (v : Option Value) (h : Heap) (L : List Loc) : Prop := v = some (.int (0 : Int32)) ∧ Fr n0 L ∧ h = h0
set_option maxRecDepth 65536 in
set_option maxHeartbeats 40000000 in
theorem rmEq_long (l : Launch) (Z : State) (a0 : Array Value) (hw : ∀ d ∈ tables_1, d.before a0 Z = true) (ws : List Jvm.Cond) (o0 : Addr) (o1 : Addr) (h0 : Heap) (n0 : Nat) (Z0 : n0 ≤ h0.size) (E_o1 : Exa Z h0 o1 "java/lang/Long") :
    MetFree l (⟨"com/example/lessor/lessor/namespace/Binding", "equals", "(Ljava/lang/Object;)Z"⟩ : MethodName) (head1 (Jvm.Cond.code (⟨"com/example/lessor/lessor/namespace/Binding", "equals", "(Ljava/lang/Object;)Z"⟩ : MethodName) prog_13_method_5_code 3 (some .boolean) :: ws) ({ frames := 0, cells := 0, slots := 0, locals := 0 } : Room)) (fun a U => a = #[(.ref o0), (.ref o1)] ∧ Z.Warmed39 U.vm ∧ U.heap = h0) (fun _ _ _ _ _ => True) (fun _ U o U' => ∃ v L, o = .returned v ∧ Q_rmEq_long Z o0 o1 h0 n0 v U'.heap L ∧ FrameEnd U o U' L ({ frames := 0, cells := 0, slots := 0, locals := 0 } : Room).cells ({ frames := 0, cells := 0, slots := 0, locals := 0 } : Room).slots) := by
  refine MetFree.of_bodySF (plainFor_of_name pn_com_example_lessor_lessor_namespace_Binding) hisR ?_
  intro p e s m args below meth c s₁ Bd hml0 hP hK
  obtain ⟨rfl, hZ, hh⟩ := hP
  have hx := Bd.exec
  have hby := Bd.bytes
  have hml : c.maxLocals = 3 := hml0
  have hown : s.vm.findClass "com/example/lessor/lessor/namespace/Binding" = some m.cls := findClass_of_methodNamed Bd.named
  have hnm := (name_of_methodNamed Bd.named Bd.method).1
  have X0 : Stand p l e ({ frames := 0, cells := 0, slots := 0, locals := 0 } : Room) s m #[(.ref o0), (.ref o1)] below meth c s₁ [] 0 0 := Stand.of_body Bd
  have e0 : s₁.heap = h0 := by rw [← hh, Bd.state]; rfl
  have N0 := Fr.nil n0
  have pre0 : ∀ t, Steps p.tables e below (s₁.setTop (mkF m 0 #[.val (.ref o0), .val (.ref o1), .unset] [])) t → Steps p.tables e below (s₁.setTop (entryFrame m #[(.ref o0), (.ref o1)] 3)) t := fun t k => castTop (ef_prog_13_method_5_code m o0 o1) k
  obtain ⟨T1, X1, e1, st1⟩ := instNo X0 hx hZ hown (hw _ (List.mem_of_getElem? (i := 33) rfl)) e0 E_o1 (own_NSno (hw _ (List.mem_of_getElem? (i := 55) rfl)) (hw _ (List.mem_of_getElem? (i := 10) rfl)) (NS.step (hw _ (List.mem_of_getElem? (i := 55) rfl)) (NS.step (hw _ (List.mem_of_getElem? (i := 56) rfl)) (own_NSroot (hw _ (List.mem_of_getElem? (i := 57) rfl)) (hw _ (List.mem_of_getElem? (i := 10) rfl)) (by decide)) (by decide)) (by decide)) (by decide)) (g := (mkF m 1 #[.val (.ref o0), .val (.ref o1), .unset] [(.ref o1)])) rfl rfl (hb hby d_prog_13_method_5_code_1)
  obtain ⟨fs, hr, hrun, hended, hW, hsame⟩ := X1.leave (v := some (.int (0 : Int32))) (fun h => by rw [Bd.returns] at h; cases h)
  refine ⟨_, _, pre0 _ ?_, hrun, hended, _, _, rfl, ?_, ⟨_, rfl⟩, hW, hsame.mono (by decide) (by decide)⟩
  · show Steps p.tables e below (s₁.setTop (mkF m 0 #[.val (.ref o0), .val (.ref o1), .unset] [])) _
    refine XS.aloadN X0.here hx rfl (hb hby d_prog_13_method_5_code_0) rfl rfl ?_
    show Steps p.tables e below (s₁.setTop (mkF m 1 #[.val (.ref o0), .val (.ref o1), .unset] [(.ref o1)])) _
    refine st1 _ ?_
    show Steps p.tables e below (T1.setTop (mkF m 4 #[.val (.ref o0), .val (.ref o1), .unset] [(.int (0 : Int32))])) _
    refine XS.ifYes X1.here hx rfl (pc0 := 4) (pc' := 39) rfl (hb hby d_prog_13_method_5_code_4) rfl ((if0 _ _).trans (teq (by decide)).1) (by decide) (by decide) ?_
    show Steps p.tables e below (T1.setTop (mkF m 39 #[.val (.ref o0), .val (.ref o1), .unset] [])) _
    refine XS.iconst X1.here hx rfl (hb hby d_prog_13_method_5_code_39) ?_
    show Steps p.tables e below (T1.setTop (mkF m 40 #[.val (.ref o0), .val (.ref o1), .unset] [(.int (0 : Int32))])) _
    exact retN X1 hx (t := .boolean) Bd.returns (by simp) (hb hby d_prog_13_method_5_code_40) hr
  · show Q_rmEq_long Z o0 o1 h0 n0 _ T1.heap _
    rw [e1]
    exact ⟨rfl, N0, rfl⟩
theorem pd__Lcom_example_lessor_lessor_namespace_FileType_J_V : parseMethodDescriptor "(Lcom/example/lessor/lessor/namespace/FileType;J)V" = some ⟨[(.object "com/example/lessor/lessor/namespace/FileType"), .long], none⟩ := by decide +kernel
theorem pd__Ljava_lang_Object__Z : parseMethodDescriptor "(Ljava/lang/Object;)Z" = some ⟨[(.object "java/lang/Object")], some .boolean⟩ := by decide +kernel
set_option maxRecDepth 65536 in
set_option maxHeartbeats 40000000 in
theorem tail_ff (l : Launch) (Z : State) (a0 : Array Value) (hw : ∀ d ∈ tables_1, d.before a0 Z = true) (p0 : Int32) (q1 : Int64) (p2 : Int32) (q3 : Int64) (p4 : Int32) (ra : Addr) (rb : Addr) (how : Int32) (idB : Int64) (h0 : Heap) (n0 : Nat) (Z0 : n0 ≤ h0.size) (E_ra : Exa Z h0 ra "com/example/lessor/lessor/namespace/FileType") (E_rb : Exa Z h0 rb "com/example/lessor/lessor/namespace/FileType") (ha84 : ¬ (ra = rb)) (hc144 : (((p4.toUInt32 >>> ((8 : Int32) &&& 31).toUInt32).toInt32) &&& (3 : Int32)) = (1 : Int32))
    {p : Program} {e : Env} {s : State} {m : MethodId} {args : Array Value} {below : List Frame} {meth : Method} {c : Code} {s₁ : State} {locs : List Loc} (X0 : Stand p l e room_1 s m args below meth c s₁ locs 0 0) (N0 : Fr n0 locs) (hx : p.tables.exec = Jvm.exec) (hZ : Z.Warmed39 s.vm) (hby : c.code = code) (hml : c.maxLocals = 17) (hown : s.vm.findClass "com/example/lessor/lessor/namespace/BindingEqualsPinLaw" = some m.cls) (hret : meth.sig.returnType = ret) (hlk : meth.locks = false) (e0 : s₁.heap = h0) :
    ∃ s₂ o, Steps p.tables e below (s₁.setTop (mkF m 55 #[.val (.int p0), .val (.long q1), .second, .val (.int p2), .val (.long q3), .second, .val (.int p4), .val (.ref ra), .val (.ref rb), .val (.int how), .val (.long idB), .second, .unset, .unset, .unset, .unset, .unset] [])) s₂ ∧ s₂.status = .running ∧ Ended s₂ below o ∧ (∃ v L, o = .returned v ∧ (v = some (.int (1 : Int32)) ∧ Fr n0 L) ∧ FrameEnd s o s₂ L room_1.cells room_1.slots) := by
  obtain ⟨T1, h1, X1, e1, E1, A1, D1, -, st1⟩ := newO X0 hx hZ hown (hw _ (List.mem_of_getElem? (i := 9) rfl)) (hw _ (List.mem_of_getElem? (i := 10) rfl)) (hw _ (List.mem_of_getElem? (i := 11) rfl)) e0 (g := (mkF m 55 #[.val (.int p0), .val (.long q1), .second, .val (.int p2), .val (.long q3), .second, .val (.int p4), .val (.ref ra), .val (.ref rb), .val (.int how), .val (.long idB), .second, .unset, .unset, .unset, .unset, .unset] [])) rfl (hb hby at_55) (by decide) (by decide)
  obtain ⟨b1, g1⟩ : ∃ z, z = h0.size := ⟨_, rfl⟩
  rw [← g1] at A1 D1 st1
  have g_b1 : n0 ≤ b1 := Nat.le_trans Z0 (Nat.le_of_eq g1.symm)
  have sz_b1 : h0.size ≤ b1 := Nat.le_trans (Keep.refl h0 []).1 (Nat.le_of_eq g1.symm)
  have E_b1 := A1
  have F_type_b1 : Fld Z h1 b1 "com/example/lessor/lessor/namespace/Binding" "type" "Lcom/example/lessor/lessor/namespace/FileType;" .null := D1 (Or.inr (hw _ (List.mem_of_getElem? (i := 25) rfl))) (ty := (.object "com/example/lessor/lessor/namespace/FileType")) (by decide)
  have F_identifier_b1 : Fld Z h1 b1 "com/example/lessor/lessor/namespace/Binding" "identifier" "J" (.long (0 : Int64)) := D1 (Or.inr (hw _ (List.mem_of_getElem? (i := 27) rfl))) (ty := .long) (by decide)
  have K2 : Keep h0 h1 [] := (Keep.refl h0 []).ext E1
  obtain ⟨_, _, ⟨T3, L3, k3, n3⟩, -, X3, ⟨Lc3, hQ3, l3, y3, z3⟩, st3⟩ := X1.specialBack hx (y := (⟨"com/example/lessor/lessor/namespace/Binding", "<init>", "(Lcom/example/lessor/lessor/namespace/FileType;J)V"⟩ : MethodName)) rfl hown (mvT hZ (hw _ (List.mem_of_getElem? (i := 12) rfl))) (mvT hZ (hw _ (List.mem_of_getElem? (i := 13) rfl))) (mvT hZ (hw _ (List.mem_of_getElem? (i := 14) rfl))) (by decide) (backOf (W := 1) (rmBinding l Z a0 hw [] b1 ra q1 .null (.long (0 : Int64)) h1 n0 (Nat.le_trans Z0 K2.1) E_b1 (E_ra.ext E1) F_type_b1 g_b1 F_identifier_b1) hZ (hw _ (List.mem_of_getElem? (i := 14) rfl)) (hw _ (List.mem_of_getElem? (i := 11) rfl)) (by decide) (by decide)) (g := (mkF m 62 #[.val (.int p0), .val (.long q1), .second, .val (.int p2), .val (.long q3), .second, .val (.int p4), .val (.ref ra), .val (.ref rb), .val (.int how), .val (.long idB), .second, .unset, .unset, .unset, .unset, .unset] [(.long q1), (.ref ra), (.ref b1), (.ref b1)])) rfl (by rw [hml]; rfl) (Steps.refl _) (a := b1) (argsL := [(.ref ra), (.long q1)]) (rest := [(.ref b1)]) (lenOf pd__Lcom_example_lessor_lessor_namespace_FileType_J_V rfl) rfl (by show 2 * 0 + _ ≤ _; exact Nat.le_of_eq rfl) (hb hby at_62) (fun _ _ => ⟨rfl, e1, (by decide : 1 + 0 ≤ _), (by decide : 2 + 0 ≤ _)⟩)
  dsimp only [Pt.U, Pt.locs, Pt.cells, Pt.slots] at X3 l3 y3 z3 st3 hQ3
  subst l3 y3 z3
  obtain ⟨rfl, N3q, K3, E3, Ff3, Fd3⟩ := hQ3
  have K4 : Keep h0 T3.heap [] := K2.trans K3 (allS (P := fun x => x ∈ [] ∨ h0.size ≤ x) (Or.inr sz_b1) all0)
  have N3 := Fr.app N0 N3q
  obtain ⟨T5, h5, X5, e5, E5, A5, D5, -, st5⟩ := newO X3 hx hZ hown (hw _ (List.mem_of_getElem? (i := 9) rfl)) (hw _ (List.mem_of_getElem? (i := 10) rfl)) (hw _ (List.mem_of_getElem? (i := 11) rfl)) rfl (g := (mkF m 67 #[.val (.int p0), .val (.long q1), .second, .val (.int p2), .val (.long q3), .second, .val (.int p4), .val (.ref ra), .val (.ref rb), .val (.int how), .val (.long idB), .second, .val (.ref b1), .unset, .unset, .unset, .unset] [])) rfl (hb hby at_67) (by decide) (by decide)
  obtain ⟨b5, g5⟩ : ∃ z, z = T3.heap.size := ⟨_, rfl⟩
  rw [← g5] at A5 D5 st5
  have g_b5 : n0 ≤ b5 := Nat.le_trans (Nat.le_trans Z0 K4.1) (Nat.le_of_eq g5.symm)
  have sz_b5 : h0.size ≤ b5 := Nat.le_trans K4.1 (Nat.le_of_eq g5.symm)
  have E_b5 := A5
  have F_type_b5 : Fld Z h5 b5 "com/example/lessor/lessor/namespace/Binding" "type" "Lcom/example/lessor/lessor/namespace/FileType;" .null := D5 (Or.inr (hw _ (List.mem_of_getElem? (i := 25) rfl))) (ty := (.object "com/example/lessor/lessor/namespace/FileType")) (by decide)
  have F_identifier_b5 : Fld Z h5 b5 "com/example/lessor/lessor/namespace/Binding" "identifier" "J" (.long (0 : Int64)) := D5 (Or.inr (hw _ (List.mem_of_getElem? (i := 27) rfl))) (ty := .long) (by decide)
  have K6 : Keep h0 h5 [] := K4.ext E5
  obtain ⟨_, _, ⟨T7, L7, k7, n7⟩, -, X7, ⟨Lc7, hQ7, l7, y7, z7⟩, st7⟩ := X5.specialBack hx (y := (⟨"com/example/lessor/lessor/namespace/Binding", "<init>", "(Lcom/example/lessor/lessor/namespace/FileType;J)V"⟩ : MethodName)) rfl hown (mvT hZ (hw _ (List.mem_of_getElem? (i := 12) rfl))) (mvT hZ (hw _ (List.mem_of_getElem? (i := 13) rfl))) (mvT hZ (hw _ (List.mem_of_getElem? (i := 14) rfl))) (by decide) (backOf (W := 1) (rmBinding l Z a0 hw [] b5 rb idB .null (.long (0 : Int64)) h5 n0 (Nat.le_trans Z0 K6.1) E_b5 (((E_rb.ext E1).keep K3).ext E5) F_type_b5 g_b5 F_identifier_b5) hZ (hw _ (List.mem_of_getElem? (i := 14) rfl)) (hw _ (List.mem_of_getElem? (i := 11) rfl)) (by decide) (by decide)) (g := (mkF m 75 #[.val (.int p0), .val (.long q1), .second, .val (.int p2), .val (.long q3), .second, .val (.int p4), .val (.ref ra), .val (.ref rb), .val (.int how), .val (.long idB), .second, .val (.ref b1), .unset, .unset, .unset, .unset] [(.long idB), (.ref rb), (.ref b5), (.ref b5)])) rfl (by rw [hml]; rfl) (Steps.refl _) (a := b5) (argsL := [(.ref rb), (.long idB)]) (rest := [(.ref b5)]) (lenOf pd__Lcom_example_lessor_lessor_namespace_FileType_J_V rfl) rfl (by show 2 * 0 + _ ≤ _; exact Nat.le_of_eq rfl) (hb hby at_75) (fun _ _ => ⟨rfl, e5, (by decide : 2 + 0 ≤ _), (by decide : 4 + 0 ≤ _)⟩)
  dsimp only [Pt.U, Pt.locs, Pt.cells, Pt.slots] at X7 l7 y7 z7 st7 hQ7
  subst l7 y7 z7
  obtain ⟨rfl, N7q, K7, E7, Ff7, Fd7⟩ := hQ7
  have K8 : Keep h0 T7.heap [] := K6.trans K7 (allS (P := fun x => x ∈ [] ∨ h0.size ≤ x) (Or.inr sz_b5) all0)
  have N7 := Fr.app N3 N7q
  have ne_b1_b5 : b1 ≠ b5 := Nat.ne_of_lt (Nat.lt_of_lt_of_le E3.lt (Nat.le_of_eq g5.symm))
  obtain ⟨cq9, kq9, q9a, q9b, q9c⟩ := isOf hZ rfl ((E3.ext E5).keep K7)
  obtain ⟨_, _, ⟨T9, L9, k9, n9⟩, -, X9, ⟨Lc9, hQ9, l9, y9, z9⟩, st9⟩ := X7.virtualBack hx (y := (⟨"com/example/lessor/lessor/namespace/Binding", "equals", "(Ljava/lang/Object;)Z"⟩ : MethodName)) (z := (⟨"com/example/lessor/lessor/namespace/Binding", "equals", "(Ljava/lang/Object;)Z"⟩ : MethodName)) hown (mvT hZ (hw _ (List.mem_of_getElem? (i := 28) rfl))) (mvT hZ (hw _ (List.mem_of_getElem? (i := 29) rfl))) (notFace_of_selects (args := #[]) (mvT hZ (hw _ (List.mem_of_getElem? (i := 31) rfl)))) (mvT hZ (hw _ (List.mem_of_getElem? (i := 31) rfl))) (mvT hZ (hw _ (List.mem_of_getElem? (i := 30) rfl))) (by decide) (backOf (W := 0) (rmEq_f l Z a0 hw [] b1 b5 ra rb T7.heap n0 (Nat.le_trans Z0 K8.1) E7 ((Ff3.ext E5).keep K7 (ninS ne_b1_b5 nin0)) Ff7 ha84) hZ (hw _ (List.mem_of_getElem? (i := 32) rfl)) (hw _ (List.mem_of_getElem? (i := 11) rfl)) (by decide) (by decide)) q9a q9c (g := (mkF m 105 #[.val (.int p0), .val (.long q1), .second, .val (.int p2), .val (.long q3), .second, .val (.int p4), .val (.ref ra), .val (.ref rb), .val (.int how), .val (.long idB), .second, .val (.ref b1), .val (.ref b5), .val (.int (0 : Int32)), .unset, .unset] [(.ref b5), (.ref b1)])) rfl (by rw [hml]; rfl) (Steps.refl _) (argsL := [(.ref b5)]) (rest := []) (lenOf pd__Ljava_lang_Object__Z rfl) rfl (by show 2 * 0 + _ ≤ _; exact Nat.le_of_eq rfl) (hb hby at_105) (fun _ _ => ⟨rfl, rfl, (by decide : 2 + 0 ≤ _), (by decide : 4 + 0 ≤ _)⟩)
  dsimp only [Pt.U, Pt.locs, Pt.cells, Pt.slots] at X9 l9 y9 z9 st9 hQ9
  subst l9 y9 z9
  obtain ⟨rfl, N9q, e9⟩ := hQ9
  have N9 := Fr.app N7 N9q
  obtain ⟨cq10, kq10, q10a, q10b, q10c⟩ := isOf hZ e9 E7
  obtain ⟨_, _, ⟨T10, L10, k10, n10⟩, -, X10, ⟨Lc10, hQ10, l10, y10, z10⟩, st10⟩ := X9.virtualBack hx (y := (⟨"com/example/lessor/lessor/namespace/Binding", "equals", "(Ljava/lang/Object;)Z"⟩ : MethodName)) (z := (⟨"com/example/lessor/lessor/namespace/Binding", "equals", "(Ljava/lang/Object;)Z"⟩ : MethodName)) hown (mvT hZ (hw _ (List.mem_of_getElem? (i := 28) rfl))) (mvT hZ (hw _ (List.mem_of_getElem? (i := 29) rfl))) (notFace_of_selects (args := #[]) (mvT hZ (hw _ (List.mem_of_getElem? (i := 31) rfl)))) (mvT hZ (hw _ (List.mem_of_getElem? (i := 31) rfl))) (mvT hZ (hw _ (List.mem_of_getElem? (i := 30) rfl))) (by decide) (backOf (W := 0) (rmEq_f l Z a0 hw [] b5 b1 rb ra T7.heap n0 (Nat.le_trans Z0 K8.1) ((E3.ext E5).keep K7) Ff7 ((Ff3.ext E5).keep K7 (ninS ne_b1_b5 nin0)) (fun q => ha84 (Eq.symm q))) hZ (hw _ (List.mem_of_getElem? (i := 32) rfl)) (hw _ (List.mem_of_getElem? (i := 11) rfl)) (by decide) (by decide)) q10a q10c (g := (mkF m 117 #[.val (.int p0), .val (.long q1), .second, .val (.int p2), .val (.long q3), .second, .val (.int p4), .val (.ref ra), .val (.ref rb), .val (.int how), .val (.long idB), .second, .val (.ref b1), .val (.ref b5), .val (.int (0 : Int32)), .unset, .unset] [(.ref b1), (.ref b5)])) rfl (by rw [hml]; rfl) (Steps.refl _) (argsL := [(.ref b1)]) (rest := []) (lenOf pd__Ljava_lang_Object__Z rfl) rfl (by show 2 * 0 + _ ≤ _; exact Nat.le_of_eq rfl) (hb hby at_117) (fun _ _ => ⟨rfl, e9, (by decide : 2 + 0 ≤ _), (by decide : 4 + 0 ≤ _)⟩)
  dsimp only [Pt.U, Pt.locs, Pt.cells, Pt.slots] at X10 l10 y10 z10 st10 hQ10
  subst l10 y10 z10
  obtain ⟨rfl, N10q, e10⟩ := hQ10
  have N10 := Fr.app N9 N10q
  obtain ⟨cq11, kq11, q11a, q11b, q11c⟩ := isOf hZ e10 ((E3.ext E5).keep K7)
  obtain ⟨_, _, ⟨T11, L11, k11, n11⟩, -, X11, ⟨Lc11, hQ11, l11, y11, z11⟩, st11⟩ := X10.virtualBack hx (y := (⟨"com/example/lessor/lessor/namespace/Binding", "equals", "(Ljava/lang/Object;)Z"⟩ : MethodName)) (z := (⟨"com/example/lessor/lessor/namespace/Binding", "equals", "(Ljava/lang/Object;)Z"⟩ : MethodName)) hown (mvT hZ (hw _ (List.mem_of_getElem? (i := 28) rfl))) (mvT hZ (hw _ (List.mem_of_getElem? (i := 29) rfl))) (notFace_of_selects (args := #[]) (mvT hZ (hw _ (List.mem_of_getElem? (i := 31) rfl)))) (mvT hZ (hw _ (List.mem_of_getElem? (i := 31) rfl))) (mvT hZ (hw _ (List.mem_of_getElem? (i := 30) rfl))) (by decide) (backOf (W := 0) (rmEq_null l Z a0 hw [] b1 T7.heap n0 (Nat.le_trans Z0 K8.1)) hZ (hw _ (List.mem_of_getElem? (i := 32) rfl)) (hw _ (List.mem_of_getElem? (i := 11) rfl)) (by decide) (by decide)) q11a q11c (g := (mkF m 155 #[.val (.int p0), .val (.long q1), .second, .val (.int p2), .val (.long q3), .second, .val (.int p4), .val (.ref ra), .val (.ref rb), .val (.int how), .val (.long idB), .second, .val (.ref b1), .val (.ref b5), .val (.int (0 : Int32)), .val (.int (1 : Int32)), .val (.int (((p4.toUInt32 >>> ((8 : Int32) &&& 31).toUInt32).toInt32) &&& (3 : Int32)))] [.null, (.ref b1)])) rfl (by rw [hml]; rfl) (Steps.refl _) (argsL := [.null]) (rest := []) (lenOf pd__Ljava_lang_Object__Z rfl) rfl (by show 2 * 0 + _ ≤ _; exact Nat.le_of_eq rfl) (hb hby at_155) (fun _ _ => ⟨rfl, e10, (by decide : 2 + 0 ≤ _), (by decide : 4 + 0 ≤ _)⟩)
  dsimp only [Pt.U, Pt.locs, Pt.cells, Pt.slots] at X11 l11 y11 z11 st11 hQ11
  subst l11 y11 z11
  obtain ⟨rfl, N11q, e11⟩ := hQ11
  have N11 := Fr.app N10 N11q
  obtain ⟨fs, hr, hrun, hended, hW, hsame⟩ := X11.leave (v := some (.int (1 : Int32))) (fun h => by rw [hret] at h; cases h)
  refine ⟨_, _, ?_, hrun, hended, _, _, rfl, ⟨rfl, N11⟩, ⟨_, rfl⟩, hW, hsame.mono (by decide) (by decide)⟩
  show Steps p.tables e below (s₁.setTop (mkF m 55 #[.val (.int p0), .val (.long q1), .second, .val (.int p2), .val (.long q3), .second, .val (.int p4), .val (.ref ra), .val (.ref rb), .val (.int how), .val (.long idB), .second, .unset, .unset, .unset, .unset, .unset] [])) _
  refine st1 _ ?_
  show Steps p.tables e below (T1.setTop (mkF m 58 #[.val (.int p0), .val (.long q1), .second, .val (.int p2), .val (.long q3), .second, .val (.int p4), .val (.ref ra), .val (.ref rb), .val (.int how), .val (.long idB), .second, .unset, .unset, .unset, .unset, .unset] [(.ref b1)])) _
  refine XS.dup X1.here hx rfl (hb hby at_58) rfl rfl ?_
  show Steps p.tables e below (T1.setTop (mkF m 59 #[.val (.int p0), .val (.long q1), .second, .val (.int p2), .val (.long q3), .second, .val (.int p4), .val (.ref ra), .val (.ref rb), .val (.int how), .val (.long idB), .second, .unset, .unset, .unset, .unset, .unset] [(.ref b1), (.ref b1)])) _
  refine XS.aload X1.here hx rfl (hb hby at_59) rfl rfl ?_
  show Steps p.tables e below (T1.setTop (mkF m 61 #[.val (.int p0), .val (.long q1), .second, .val (.int p2), .val (.long q3), .second, .val (.int p4), .val (.ref ra), .val (.ref rb), .val (.int how), .val (.long idB), .second, .unset, .unset, .unset, .unset, .unset] [(.ref ra), (.ref b1), (.ref b1)])) _
  refine XS.lloadN X1.here hx rfl (hb hby at_61) rfl ?_
  show Steps p.tables e below (T1.setTop (mkF m 62 #[.val (.int p0), .val (.long q1), .second, .val (.int p2), .val (.long q3), .second, .val (.int p4), .val (.ref ra), .val (.ref rb), .val (.int how), .val (.long idB), .second, .unset, .unset, .unset, .unset, .unset] [(.long q1), (.ref ra), (.ref b1), (.ref b1)])) _
  refine st3.trans ?_
  show Steps p.tables e below (T3.setTop (mkF m 65 #[.val (.int p0), .val (.long q1), .second, .val (.int p2), .val (.long q3), .second, .val (.int p4), .val (.ref ra), .val (.ref rb), .val (.int how), .val (.long idB), .second, .unset, .unset, .unset, .unset, .unset] [(.ref b1)])) _
  refine XS.astore X3.here hx rfl (hb hby at_65) rfl rfl (l' := #[.val (.int p0), .val (.long q1), .second, .val (.int p2), .val (.long q3), .second, .val (.int p4), .val (.ref ra), .val (.ref rb), .val (.int how), .val (.long idB), .second, .val (.ref b1), .unset, .unset, .unset, .unset]) rfl ?_
  show Steps p.tables e below (T3.setTop (mkF m 67 #[.val (.int p0), .val (.long q1), .second, .val (.int p2), .val (.long q3), .second, .val (.int p4), .val (.ref ra), .val (.ref rb), .val (.int how), .val (.long idB), .second, .val (.ref b1), .unset, .unset, .unset, .unset] [])) _
  refine st5 _ ?_
  show Steps p.tables e below (T5.setTop (mkF m 70 #[.val (.int p0), .val (.long q1), .second, .val (.int p2), .val (.long q3), .second, .val (.int p4), .val (.ref ra), .val (.ref rb), .val (.int how), .val (.long idB), .second, .val (.ref b1), .unset, .unset, .unset, .unset] [(.ref b5)])) _
  refine XS.dup X5.here hx rfl (hb hby at_70) rfl rfl ?_
  show Steps p.tables e below (T5.setTop (mkF m 71 #[.val (.int p0), .val (.long q1), .second, .val (.int p2), .val (.long q3), .second, .val (.int p4), .val (.ref ra), .val (.ref rb), .val (.int how), .val (.long idB), .second, .val (.ref b1), .unset, .unset, .unset, .unset] [(.ref b5), (.ref b5)])) _
  refine XS.aload X5.here hx rfl (hb hby at_71) rfl rfl ?_
  show Steps p.tables e below (T5.setTop (mkF m 73 #[.val (.int p0), .val (.long q1), .second, .val (.int p2), .val (.long q3), .second, .val (.int p4), .val (.ref ra), .val (.ref rb), .val (.int how), .val (.long idB), .second, .val (.ref b1), .unset, .unset, .unset, .unset] [(.ref rb), (.ref b5), (.ref b5)])) _
  refine XS.lload X5.here hx rfl (hb hby at_73) rfl ?_
  show Steps p.tables e below (T5.setTop (mkF m 75 #[.val (.int p0), .val (.long q1), .second, .val (.int p2), .val (.long q3), .second, .val (.int p4), .val (.ref ra), .val (.ref rb), .val (.int how), .val (.long idB), .second, .val (.ref b1), .unset, .unset, .unset, .unset] [(.long idB), (.ref rb), (.ref b5), (.ref b5)])) _
  refine st7.trans ?_
  show Steps p.tables e below (T7.setTop (mkF m 78 #[.val (.int p0), .val (.long q1), .second, .val (.int p2), .val (.long q3), .second, .val (.int p4), .val (.ref ra), .val (.ref rb), .val (.int how), .val (.long idB), .second, .val (.ref b1), .unset, .unset, .unset, .unset] [(.ref b5)])) _
  refine XS.astore X7.here hx rfl (hb hby at_78) rfl rfl (l' := #[.val (.int p0), .val (.long q1), .second, .val (.int p2), .val (.long q3), .second, .val (.int p4), .val (.ref ra), .val (.ref rb), .val (.int how), .val (.long idB), .second, .val (.ref b1), .val (.ref b5), .unset, .unset, .unset]) rfl ?_
  show Steps p.tables e below (T7.setTop (mkF m 80 #[.val (.int p0), .val (.long q1), .second, .val (.int p2), .val (.long q3), .second, .val (.int p4), .val (.ref ra), .val (.ref rb), .val (.int how), .val (.long idB), .second, .val (.ref b1), .val (.ref b5), .unset, .unset, .unset] [])) _
  refine XS.aload X7.here hx rfl (hb hby at_80) rfl rfl ?_
  show Steps p.tables e below (T7.setTop (mkF m 82 #[.val (.int p0), .val (.long q1), .second, .val (.int p2), .val (.long q3), .second, .val (.int p4), .val (.ref ra), .val (.ref rb), .val (.int how), .val (.long idB), .second, .val (.ref b1), .val (.ref b5), .unset, .unset, .unset] [(.ref ra)])) _
  refine XS.aload X7.here hx rfl (hb hby at_82) rfl rfl ?_
  show Steps p.tables e below (T7.setTop (mkF m 84 #[.val (.int p0), .val (.long q1), .second, .val (.int p2), .val (.long q3), .second, .val (.int p4), .val (.ref ra), .val (.ref rb), .val (.int how), .val (.long idB), .second, .val (.ref b1), .val (.ref b5), .unset, .unset, .unset] [(.ref rb), (.ref ra)])) _
  refine Jvm.RoadKit.acmp (g := (mkF m 84 #[.val (.int p0), .val (.long q1), .second, .val (.int p2), .val (.long q3), .second, .val (.int p4), .val (.ref ra), .val (.ref rb), .val (.int how), .val (.long idB), .second, .val (.ref b1), .val (.ref b5), .unset, .unset, .unset] [(.ref rb), (.ref ra)])) X7 hx rfl rfl rfl (pc0 := 84) (pc' := 98) (same := false) rfl (hb hby at_84) rfl (decide_eq_false fun q => ha84 (Value.ref.inj q)) (by decide) (by decide) ?_
  show Steps p.tables e below (T7.setTop (mkF m 98 #[.val (.int p0), .val (.long q1), .second, .val (.int p2), .val (.long q3), .second, .val (.int p4), .val (.ref ra), .val (.ref rb), .val (.int how), .val (.long idB), .second, .val (.ref b1), .val (.ref b5), .unset, .unset, .unset] [])) _
  refine XS.iconst X7.here hx rfl (hb hby at_98) ?_
  show Steps p.tables e below (T7.setTop (mkF m 99 #[.val (.int p0), .val (.long q1), .second, .val (.int p2), .val (.long q3), .second, .val (.int p4), .val (.ref ra), .val (.ref rb), .val (.int how), .val (.long idB), .second, .val (.ref b1), .val (.ref b5), .unset, .unset, .unset] [(.int (0 : Int32))])) _
  refine XS.istore X7.here hx rfl (hb hby at_99) rfl (l' := #[.val (.int p0), .val (.long q1), .second, .val (.int p2), .val (.long q3), .second, .val (.int p4), .val (.ref ra), .val (.ref rb), .val (.int how), .val (.long idB), .second, .val (.ref b1), .val (.ref b5), .val (.int (0 : Int32)), .unset, .unset]) rfl ?_
  show Steps p.tables e below (T7.setTop (mkF m 101 #[.val (.int p0), .val (.long q1), .second, .val (.int p2), .val (.long q3), .second, .val (.int p4), .val (.ref ra), .val (.ref rb), .val (.int how), .val (.long idB), .second, .val (.ref b1), .val (.ref b5), .val (.int (0 : Int32)), .unset, .unset] [])) _
  refine XS.aload X7.here hx rfl (hb hby at_101) rfl rfl ?_
  show Steps p.tables e below (T7.setTop (mkF m 103 #[.val (.int p0), .val (.long q1), .second, .val (.int p2), .val (.long q3), .second, .val (.int p4), .val (.ref ra), .val (.ref rb), .val (.int how), .val (.long idB), .second, .val (.ref b1), .val (.ref b5), .val (.int (0 : Int32)), .unset, .unset] [(.ref b1)])) _
  refine XS.aload X7.here hx rfl (hb hby at_103) rfl rfl ?_
  show Steps p.tables e below (T7.setTop (mkF m 105 #[.val (.int p0), .val (.long q1), .second, .val (.int p2), .val (.long q3), .second, .val (.int p4), .val (.ref ra), .val (.ref rb), .val (.int how), .val (.long idB), .second, .val (.ref b1), .val (.ref b5), .val (.int (0 : Int32)), .unset, .unset] [(.ref b5), (.ref b1)])) _
  refine st9.trans ?_
  show Steps p.tables e below (T9.setTop (mkF m 108 #[.val (.int p0), .val (.long q1), .second, .val (.int p2), .val (.long q3), .second, .val (.int p4), .val (.ref ra), .val (.ref rb), .val (.int how), .val (.long idB), .second, .val (.ref b1), .val (.ref b5), .val (.int (0 : Int32)), .unset, .unset] [(.int (0 : Int32))])) _
  refine XS.iload X9.here hx rfl (hb hby at_108) rfl ?_
  show Steps p.tables e below (T9.setTop (mkF m 110 #[.val (.int p0), .val (.long q1), .second, .val (.int p2), .val (.long q3), .second, .val (.int p4), .val (.ref ra), .val (.ref rb), .val (.int how), .val (.long idB), .second, .val (.ref b1), .val (.ref b5), .val (.int (0 : Int32)), .unset, .unset] [(.int (0 : Int32)), (.int (0 : Int32))])) _
  refine XS.icmpNo X9.here hx rfl (hb hby at_110) rfl (teq (by decide)).2 ?_
  show Steps p.tables e below (T9.setTop (mkF m 113 #[.val (.int p0), .val (.long q1), .second, .val (.int p2), .val (.long q3), .second, .val (.int p4), .val (.ref ra), .val (.ref rb), .val (.int how), .val (.long idB), .second, .val (.ref b1), .val (.ref b5), .val (.int (0 : Int32)), .unset, .unset] [])) _
  refine XS.aload X9.here hx rfl (hb hby at_113) rfl rfl ?_
  show Steps p.tables e below (T9.setTop (mkF m 115 #[.val (.int p0), .val (.long q1), .second, .val (.int p2), .val (.long q3), .second, .val (.int p4), .val (.ref ra), .val (.ref rb), .val (.int how), .val (.long idB), .second, .val (.ref b1), .val (.ref b5), .val (.int (0 : Int32)), .unset, .unset] [(.ref b5)])) _
  refine XS.aload X9.here hx rfl (hb hby at_115) rfl rfl ?_
  show Steps p.tables e below (T9.setTop (mkF m 117 #[.val (.int p0), .val (.long q1), .second, .val (.int p2), .val (.long q3), .second, .val (.int p4), .val (.ref ra), .val (.ref rb), .val (.int how), .val (.long idB), .second, .val (.ref b1), .val (.ref b5), .val (.int (0 : Int32)), .unset, .unset] [(.ref b1), (.ref b5)])) _
  refine st10.trans ?_
  show Steps p.tables e below (T10.setTop (mkF m 120 #[.val (.int p0), .val (.long q1), .second, .val (.int p2), .val (.long q3), .second, .val (.int p4), .val (.ref ra), .val (.ref rb), .val (.int how), .val (.long idB), .second, .val (.ref b1), .val (.ref b5), .val (.int (0 : Int32)), .unset, .unset] [(.int (0 : Int32))])) _
  refine XS.iload X10.here hx rfl (hb hby at_120) rfl ?_
  show Steps p.tables e below (T10.setTop (mkF m 122 #[.val (.int p0), .val (.long q1), .second, .val (.int p2), .val (.long q3), .second, .val (.int p4), .val (.ref ra), .val (.ref rb), .val (.int how), .val (.long idB), .second, .val (.ref b1), .val (.ref b5), .val (.int (0 : Int32)), .unset, .unset] [(.int (0 : Int32)), (.int (0 : Int32))])) _
  refine XS.icmpNo X10.here hx rfl (hb hby at_122) rfl (teq (by decide)).2 ?_
  show Steps p.tables e below (T10.setTop (mkF m 125 #[.val (.int p0), .val (.long q1), .second, .val (.int p2), .val (.long q3), .second, .val (.int p4), .val (.ref ra), .val (.ref rb), .val (.int how), .val (.long idB), .second, .val (.ref b1), .val (.ref b5), .val (.int (0 : Int32)), .unset, .unset] [])) _
  refine XS.iconst X10.here hx rfl (hb hby at_125) ?_
  show Steps p.tables e below (T10.setTop (mkF m 126 #[.val (.int p0), .val (.long q1), .second, .val (.int p2), .val (.long q3), .second, .val (.int p4), .val (.ref ra), .val (.ref rb), .val (.int how), .val (.long idB), .second, .val (.ref b1), .val (.ref b5), .val (.int (0 : Int32)), .unset, .unset] [(.int (1 : Int32))])) _
  refine XS.goto X10.here hx rfl (pc0 := 126) (pc' := 130) rfl (hb hby at_126) (by decide) (by decide) ?_
  show Steps p.tables e below (T10.setTop (mkF m 130 #[.val (.int p0), .val (.long q1), .second, .val (.int p2), .val (.long q3), .second, .val (.int p4), .val (.ref ra), .val (.ref rb), .val (.int how), .val (.long idB), .second, .val (.ref b1), .val (.ref b5), .val (.int (0 : Int32)), .unset, .unset] [(.int (1 : Int32))])) _
  refine XS.istore X10.here hx rfl (hb hby at_130) rfl (l' := #[.val (.int p0), .val (.long q1), .second, .val (.int p2), .val (.long q3), .second, .val (.int p4), .val (.ref ra), .val (.ref rb), .val (.int how), .val (.long idB), .second, .val (.ref b1), .val (.ref b5), .val (.int (0 : Int32)), .val (.int (1 : Int32)), .unset]) rfl ?_
  show Steps p.tables e below (T10.setTop (mkF m 132 #[.val (.int p0), .val (.long q1), .second, .val (.int p2), .val (.long q3), .second, .val (.int p4), .val (.ref ra), .val (.ref rb), .val (.int how), .val (.long idB), .second, .val (.ref b1), .val (.ref b5), .val (.int (0 : Int32)), .val (.int (1 : Int32)), .unset] [])) _
  refine XS.iload X10.here hx rfl (hb hby at_132) rfl ?_
  show Steps p.tables e below (T10.setTop (mkF m 134 #[.val (.int p0), .val (.long q1), .second, .val (.int p2), .val (.long q3), .second, .val (.int p4), .val (.ref ra), .val (.ref rb), .val (.int how), .val (.long idB), .second, .val (.ref b1), .val (.ref b5), .val (.int (0 : Int32)), .val (.int (1 : Int32)), .unset] [(.int p4)])) _
  refine XS.bipush X10.here hx rfl (hb hby at_134) ?_
  show Steps p.tables e below (T10.setTop (mkF m 136 #[.val (.int p0), .val (.long q1), .second, .val (.int p2), .val (.long q3), .second, .val (.int p4), .val (.ref ra), .val (.ref rb), .val (.int how), .val (.long idB), .second, .val (.ref b1), .val (.ref b5), .val (.int (0 : Int32)), .val (.int (1 : Int32)), .unset] [(.int (8 : Int32)), (.int p4)])) _
  refine XS.iushr X10.here hx rfl (hb hby at_136) rfl ?_
  show Steps p.tables e below (T10.setTop (mkF m 137 #[.val (.int p0), .val (.long q1), .second, .val (.int p2), .val (.long q3), .second, .val (.int p4), .val (.ref ra), .val (.ref rb), .val (.int how), .val (.long idB), .second, .val (.ref b1), .val (.ref b5), .val (.int (0 : Int32)), .val (.int (1 : Int32)), .unset] [(.int ((p4.toUInt32 >>> ((8 : Int32) &&& 31).toUInt32).toInt32))])) _
  refine XS.iconst X10.here hx rfl (hb hby at_137) ?_
  show Steps p.tables e below (T10.setTop (mkF m 138 #[.val (.int p0), .val (.long q1), .second, .val (.int p2), .val (.long q3), .second, .val (.int p4), .val (.ref ra), .val (.ref rb), .val (.int how), .val (.long idB), .second, .val (.ref b1), .val (.ref b5), .val (.int (0 : Int32)), .val (.int (1 : Int32)), .unset] [(.int (3 : Int32)), (.int ((p4.toUInt32 >>> ((8 : Int32) &&& 31).toUInt32).toInt32))])) _
  refine XS.iand X10.here hx rfl (hb hby at_138) rfl ?_
  show Steps p.tables e below (T10.setTop (mkF m 139 #[.val (.int p0), .val (.long q1), .second, .val (.int p2), .val (.long q3), .second, .val (.int p4), .val (.ref ra), .val (.ref rb), .val (.int how), .val (.long idB), .second, .val (.ref b1), .val (.ref b5), .val (.int (0 : Int32)), .val (.int (1 : Int32)), .unset] [(.int (((p4.toUInt32 >>> ((8 : Int32) &&& 31).toUInt32).toInt32) &&& (3 : Int32)))])) _
  refine XS.istore X10.here hx rfl (hb hby at_139) rfl (l' := #[.val (.int p0), .val (.long q1), .second, .val (.int p2), .val (.long q3), .second, .val (.int p4), .val (.ref ra), .val (.ref rb), .val (.int how), .val (.long idB), .second, .val (.ref b1), .val (.ref b5), .val (.int (0 : Int32)), .val (.int (1 : Int32)), .val (.int (((p4.toUInt32 >>> ((8 : Int32) &&& 31).toUInt32).toInt32) &&& (3 : Int32)))]) rfl ?_
  show Steps p.tables e below (T10.setTop (mkF m 141 #[.val (.int p0), .val (.long q1), .second, .val (.int p2), .val (.long q3), .second, .val (.int p4), .val (.ref ra), .val (.ref rb), .val (.int how), .val (.long idB), .second, .val (.ref b1), .val (.ref b5), .val (.int (0 : Int32)), .val (.int (1 : Int32)), .val (.int (((p4.toUInt32 >>> ((8 : Int32) &&& 31).toUInt32).toInt32) &&& (3 : Int32)))] [])) _
  refine XS.iload X10.here hx rfl (hb hby at_141) rfl ?_
  show Steps p.tables e below (T10.setTop (mkF m 143 #[.val (.int p0), .val (.long q1), .second, .val (.int p2), .val (.long q3), .second, .val (.int p4), .val (.ref ra), .val (.ref rb), .val (.int how), .val (.long idB), .second, .val (.ref b1), .val (.ref b5), .val (.int (0 : Int32)), .val (.int (1 : Int32)), .val (.int (((p4.toUInt32 >>> ((8 : Int32) &&& 31).toUInt32).toInt32) &&& (3 : Int32)))] [(.int (((p4.toUInt32 >>> ((8 : Int32) &&& 31).toUInt32).toInt32) &&& (3 : Int32)))])) _
  refine XS.iconst X10.here hx rfl (hb hby at_143) ?_
  show Steps p.tables e below (T10.setTop (mkF m 144 #[.val (.int p0), .val (.long q1), .second, .val (.int p2), .val (.long q3), .second, .val (.int p4), .val (.ref ra), .val (.ref rb), .val (.int how), .val (.long idB), .second, .val (.ref b1), .val (.ref b5), .val (.int (0 : Int32)), .val (.int (1 : Int32)), .val (.int (((p4.toUInt32 >>> ((8 : Int32) &&& 31).toUInt32).toInt32) &&& (3 : Int32)))] [(.int (1 : Int32)), (.int (((p4.toUInt32 >>> ((8 : Int32) &&& 31).toUInt32).toInt32) &&& (3 : Int32)))])) _
  refine XS.icmpNo X10.here hx rfl (hb hby at_144) rfl (teq hc144).2 ?_
  show Steps p.tables e below (T10.setTop (mkF m 147 #[.val (.int p0), .val (.long q1), .second, .val (.int p2), .val (.long q3), .second, .val (.int p4), .val (.ref ra), .val (.ref rb), .val (.int how), .val (.long idB), .second, .val (.ref b1), .val (.ref b5), .val (.int (0 : Int32)), .val (.int (1 : Int32)), .val (.int (((p4.toUInt32 >>> ((8 : Int32) &&& 31).toUInt32).toInt32) &&& (3 : Int32)))] [])) _
  refine XS.iload X10.here hx rfl (hb hby at_147) rfl ?_
  show Steps p.tables e below (T10.setTop (mkF m 149 #[.val (.int p0), .val (.long q1), .second, .val (.int p2), .val (.long q3), .second, .val (.int p4), .val (.ref ra), .val (.ref rb), .val (.int how), .val (.long idB), .second, .val (.ref b1), .val (.ref b5), .val (.int (0 : Int32)), .val (.int (1 : Int32)), .val (.int (((p4.toUInt32 >>> ((8 : Int32) &&& 31).toUInt32).toInt32) &&& (3 : Int32)))] [(.int (1 : Int32))])) _
  refine XS.ifNo X10.here hx rfl (hb hby at_149) rfl ((if0 _ _).trans (feq (by decide)).1) ?_
  show Steps p.tables e below (T10.setTop (mkF m 152 #[.val (.int p0), .val (.long q1), .second, .val (.int p2), .val (.long q3), .second, .val (.int p4), .val (.ref ra), .val (.ref rb), .val (.int how), .val (.long idB), .second, .val (.ref b1), .val (.ref b5), .val (.int (0 : Int32)), .val (.int (1 : Int32)), .val (.int (((p4.toUInt32 >>> ((8 : Int32) &&& 31).toUInt32).toInt32) &&& (3 : Int32)))] [])) _
  refine XS.aload X10.here hx rfl (hb hby at_152) rfl rfl ?_
  show Steps p.tables e below (T10.setTop (mkF m 154 #[.val (.int p0), .val (.long q1), .second, .val (.int p2), .val (.long q3), .second, .val (.int p4), .val (.ref ra), .val (.ref rb), .val (.int how), .val (.long idB), .second, .val (.ref b1), .val (.ref b5), .val (.int (0 : Int32)), .val (.int (1 : Int32)), .val (.int (((p4.toUInt32 >>> ((8 : Int32) &&& 31).toUInt32).toInt32) &&& (3 : Int32)))] [(.ref b1)])) _
  refine XS.aconstNull X10.here hx rfl (hb hby at_154) ?_
  show Steps p.tables e below (T10.setTop (mkF m 155 #[.val (.int p0), .val (.long q1), .second, .val (.int p2), .val (.long q3), .second, .val (.int p4), .val (.ref ra), .val (.ref rb), .val (.int how), .val (.long idB), .second, .val (.ref b1), .val (.ref b5), .val (.int (0 : Int32)), .val (.int (1 : Int32)), .val (.int (((p4.toUInt32 >>> ((8 : Int32) &&& 31).toUInt32).toInt32) &&& (3 : Int32)))] [.null, (.ref b1)])) _
  refine st11.trans ?_
  show Steps p.tables e below (T11.setTop (mkF m 158 #[.val (.int p0), .val (.long q1), .second, .val (.int p2), .val (.long q3), .second, .val (.int p4), .val (.ref ra), .val (.ref rb), .val (.int how), .val (.long idB), .second, .val (.ref b1), .val (.ref b5), .val (.int (0 : Int32)), .val (.int (1 : Int32)), .val (.int (((p4.toUInt32 >>> ((8 : Int32) &&& 31).toUInt32).toInt32) &&& (3 : Int32)))] [(.int (0 : Int32))])) _
  refine XS.ifNo X11.here hx rfl (hb hby at_158) rfl ((if0 _ _).trans (teq (by decide)).2) ?_
  show Steps p.tables e below (T11.setTop (mkF m 161 #[.val (.int p0), .val (.long q1), .second, .val (.int p2), .val (.long q3), .second, .val (.int p4), .val (.ref ra), .val (.ref rb), .val (.int how), .val (.long idB), .second, .val (.ref b1), .val (.ref b5), .val (.int (0 : Int32)), .val (.int (1 : Int32)), .val (.int (((p4.toUInt32 >>> ((8 : Int32) &&& 31).toUInt32).toInt32) &&& (3 : Int32)))] [])) _
  refine XS.iconst X11.here hx rfl (hb hby at_161) ?_
  show Steps p.tables e below (T11.setTop (mkF m 162 #[.val (.int p0), .val (.long q1), .second, .val (.int p2), .val (.long q3), .second, .val (.int p4), .val (.ref ra), .val (.ref rb), .val (.int how), .val (.long idB), .second, .val (.ref b1), .val (.ref b5), .val (.int (0 : Int32)), .val (.int (1 : Int32)), .val (.int (((p4.toUInt32 >>> ((8 : Int32) &&& 31).toUInt32).toInt32) &&& (3 : Int32)))] [(.int (1 : Int32))])) _
  refine XS.goto X11.here hx rfl (pc0 := 162) (pc' := 166) rfl (hb hby at_162) (by decide) (by decide) ?_
  show Steps p.tables e below (T11.setTop (mkF m 166 #[.val (.int p0), .val (.long q1), .second, .val (.int p2), .val (.long q3), .second, .val (.int p4), .val (.ref ra), .val (.ref rb), .val (.int how), .val (.long idB), .second, .val (.ref b1), .val (.ref b5), .val (.int (0 : Int32)), .val (.int (1 : Int32)), .val (.int (((p4.toUInt32 >>> ((8 : Int32) &&& 31).toUInt32).toInt32) &&& (3 : Int32)))] [(.int (1 : Int32))])) _
  refine XS.istore X11.here hx rfl (hb hby at_166) rfl (l' := #[.val (.int p0), .val (.long q1), .second, .val (.int p2), .val (.long q3), .second, .val (.int p4), .val (.ref ra), .val (.ref rb), .val (.int how), .val (.long idB), .second, .val (.ref b1), .val (.ref b5), .val (.int (0 : Int32)), .val (.int (1 : Int32)), .val (.int (((p4.toUInt32 >>> ((8 : Int32) &&& 31).toUInt32).toInt32) &&& (3 : Int32)))]) rfl ?_
  show Steps p.tables e below (T11.setTop (mkF m 168 #[.val (.int p0), .val (.long q1), .second, .val (.int p2), .val (.long q3), .second, .val (.int p4), .val (.ref ra), .val (.ref rb), .val (.int how), .val (.long idB), .second, .val (.ref b1), .val (.ref b5), .val (.int (0 : Int32)), .val (.int (1 : Int32)), .val (.int (((p4.toUInt32 >>> ((8 : Int32) &&& 31).toUInt32).toInt32) &&& (3 : Int32)))] [])) _
  refine XS.goto X11.here hx rfl (pc0 := 168) (pc' := 232) rfl (hb hby at_168) (by decide) (by decide) ?_
  show Steps p.tables e below (T11.setTop (mkF m 232 #[.val (.int p0), .val (.long q1), .second, .val (.int p2), .val (.long q3), .second, .val (.int p4), .val (.ref ra), .val (.ref rb), .val (.int how), .val (.long idB), .second, .val (.ref b1), .val (.ref b5), .val (.int (0 : Int32)), .val (.int (1 : Int32)), .val (.int (((p4.toUInt32 >>> ((8 : Int32) &&& 31).toUInt32).toInt32) &&& (3 : Int32)))] [])) _
  refine XS.iload X11.here hx rfl (hb hby at_232) rfl ?_
  show Steps p.tables e below (T11.setTop (mkF m 234 #[.val (.int p0), .val (.long q1), .second, .val (.int p2), .val (.long q3), .second, .val (.int p4), .val (.ref ra), .val (.ref rb), .val (.int how), .val (.long idB), .second, .val (.ref b1), .val (.ref b5), .val (.int (0 : Int32)), .val (.int (1 : Int32)), .val (.int (((p4.toUInt32 >>> ((8 : Int32) &&& 31).toUInt32).toInt32) &&& (3 : Int32)))] [(.int (1 : Int32))])) _
  exact retN X11 hx (t := .boolean) hret (by simp) (hb hby at_234) hr
set_option maxRecDepth 65536 in
set_option maxHeartbeats 40000000 in
theorem tail_ttf (l : Launch) (Z : State) (a0 : Array Value) (hw : ∀ d ∈ tables_1, d.before a0 Z = true) (p0 : Int32) (q1 : Int64) (p2 : Int32) (q3 : Int64) (p4 : Int32) (ra : Addr) (rb : Addr) (how : Int32) (idB : Int64) (h0 : Heap) (n0 : Nat) (Z0 : n0 ≤ h0.size) (E_ra : Exa Z h0 ra "com/example/lessor/lessor/namespace/FileType") (E_rb : Exa Z h0 rb "com/example/lessor/lessor/namespace/FileType") (ha84 : ra = rb) (hc91 : ¬ (q1 = idB)) (hc144 : (((p4.toUInt32 >>> ((8 : Int32) &&& 31).toUInt32).toInt32) &&& (3 : Int32)) = (1 : Int32))
    {p : Program} {e : Env} {s : State} {m : MethodId} {args : Array Value} {below : List Frame} {meth : Method} {c : Code} {s₁ : State} {locs : List Loc} (X0 : Stand p l e room_1 s m args below meth c s₁ locs 0 0) (N0 : Fr n0 locs) (hx : p.tables.exec = Jvm.exec) (hZ : Z.Warmed39 s.vm) (hby : c.code = code) (hml : c.maxLocals = 17) (hown : s.vm.findClass "com/example/lessor/lessor/namespace/BindingEqualsPinLaw" = some m.cls) (hret : meth.sig.returnType = ret) (hlk : meth.locks = false) (e0 : s₁.heap = h0) :
    ∃ s₂ o, Steps p.tables e below (s₁.setTop (mkF m 55 #[.val (.int p0), .val (.long q1), .second, .val (.int p2), .val (.long q3), .second, .val (.int p4), .val (.ref ra), .val (.ref rb), .val (.int how), .val (.long idB), .second, .unset, .unset, .unset, .unset, .unset] [])) s₂ ∧ s₂.status = .running ∧ Ended s₂ below o ∧ (∃ v L, o = .returned v ∧ (v = some (.int (1 : Int32)) ∧ Fr n0 L) ∧ FrameEnd s o s₂ L room_1.cells room_1.slots) := by
  obtain ⟨T1, h1, X1, e1, E1, A1, D1, -, st1⟩ := newO X0 hx hZ hown (hw _ (List.mem_of_getElem? (i := 9) rfl)) (hw _ (List.mem_of_getElem? (i := 10) rfl)) (hw _ (List.mem_of_getElem? (i := 11) rfl)) e0 (g := (mkF m 55 #[.val (.int p0), .val (.long q1), .second, .val (.int p2), .val (.long q3), .second, .val (.int p4), .val (.ref ra), .val (.ref rb), .val (.int how), .val (.long idB), .second, .unset, .unset, .unset, .unset, .unset] [])) rfl (hb hby at_55) (by decide) (by decide)
  obtain ⟨b1, g1⟩ : ∃ z, z = h0.size := ⟨_, rfl⟩
  rw [← g1] at A1 D1 st1
  have g_b1 : n0 ≤ b1 := Nat.le_trans Z0 (Nat.le_of_eq g1.symm)
  have sz_b1 : h0.size ≤ b1 := Nat.le_trans (Keep.refl h0 []).1 (Nat.le_of_eq g1.symm)
  have E_b1 := A1
  have F_type_b1 : Fld Z h1 b1 "com/example/lessor/lessor/namespace/Binding" "type" "Lcom/example/lessor/lessor/namespace/FileType;" .null := D1 (Or.inr (hw _ (List.mem_of_getElem? (i := 25) rfl))) (ty := (.object "com/example/lessor/lessor/namespace/FileType")) (by decide)
  have F_identifier_b1 : Fld Z h1 b1 "com/example/lessor/lessor/namespace/Binding" "identifier" "J" (.long (0 : Int64)) := D1 (Or.inr (hw _ (List.mem_of_getElem? (i := 27) rfl))) (ty := .long) (by decide)
  have K2 : Keep h0 h1 [] := (Keep.refl h0 []).ext E1
  obtain ⟨_, _, ⟨T3, L3, k3, n3⟩, -, X3, ⟨Lc3, hQ3, l3, y3, z3⟩, st3⟩ := X1.specialBack hx (y := (⟨"com/example/lessor/lessor/namespace/Binding", "<init>", "(Lcom/example/lessor/lessor/namespace/FileType;J)V"⟩ : MethodName)) rfl hown (mvT hZ (hw _ (List.mem_of_getElem? (i := 12) rfl))) (mvT hZ (hw _ (List.mem_of_getElem? (i := 13) rfl))) (mvT hZ (hw _ (List.mem_of_getElem? (i := 14) rfl))) (by decide) (backOf (W := 1) (rmBinding l Z a0 hw [] b1 ra q1 .null (.long (0 : Int64)) h1 n0 (Nat.le_trans Z0 K2.1) E_b1 (E_ra.ext E1) F_type_b1 g_b1 F_identifier_b1) hZ (hw _ (List.mem_of_getElem? (i := 14) rfl)) (hw _ (List.mem_of_getElem? (i := 11) rfl)) (by decide) (by decide)) (g := (mkF m 62 #[.val (.int p0), .val (.long q1), .second, .val (.int p2), .val (.long q3), .second, .val (.int p4), .val (.ref ra), .val (.ref rb), .val (.int how), .val (.long idB), .second, .unset, .unset, .unset, .unset, .unset] [(.long q1), (.ref ra), (.ref b1), (.ref b1)])) rfl (by rw [hml]; rfl) (Steps.refl _) (a := b1) (argsL := [(.ref ra), (.long q1)]) (rest := [(.ref b1)]) (lenOf pd__Lcom_example_lessor_lessor_namespace_FileType_J_V rfl) rfl (by show 2 * 0 + _ ≤ _; exact Nat.le_of_eq rfl) (hb hby at_62) (fun _ _ => ⟨rfl, e1, (by decide : 1 + 0 ≤ _), (by decide : 2 + 0 ≤ _)⟩)
  dsimp only [Pt.U, Pt.locs, Pt.cells, Pt.slots] at X3 l3 y3 z3 st3 hQ3
  subst l3 y3 z3
  obtain ⟨rfl, N3q, K3, E3, Ff3, Fd3⟩ := hQ3
  have K4 : Keep h0 T3.heap [] := K2.trans K3 (allS (P := fun x => x ∈ [] ∨ h0.size ≤ x) (Or.inr sz_b1) all0)
  have N3 := Fr.app N0 N3q
  obtain ⟨T5, h5, X5, e5, E5, A5, D5, -, st5⟩ := newO X3 hx hZ hown (hw _ (List.mem_of_getElem? (i := 9) rfl)) (hw _ (List.mem_of_getElem? (i := 10) rfl)) (hw _ (List.mem_of_getElem? (i := 11) rfl)) rfl (g := (mkF m 67 #[.val (.int p0), .val (.long q1), .second, .val (.int p2), .val (.long q3), .second, .val (.int p4), .val (.ref ra), .val (.ref rb), .val (.int how), .val (.long idB), .second, .val (.ref b1), .unset, .unset, .unset, .unset] [])) rfl (hb hby at_67) (by decide) (by decide)
  obtain ⟨b5, g5⟩ : ∃ z, z = T3.heap.size := ⟨_, rfl⟩
  rw [← g5] at A5 D5 st5
  have g_b5 : n0 ≤ b5 := Nat.le_trans (Nat.le_trans Z0 K4.1) (Nat.le_of_eq g5.symm)
  have sz_b5 : h0.size ≤ b5 := Nat.le_trans K4.1 (Nat.le_of_eq g5.symm)
  have E_b5 := A5
  have F_type_b5 : Fld Z h5 b5 "com/example/lessor/lessor/namespace/Binding" "type" "Lcom/example/lessor/lessor/namespace/FileType;" .null := D5 (Or.inr (hw _ (List.mem_of_getElem? (i := 25) rfl))) (ty := (.object "com/example/lessor/lessor/namespace/FileType")) (by decide)
  have F_identifier_b5 : Fld Z h5 b5 "com/example/lessor/lessor/namespace/Binding" "identifier" "J" (.long (0 : Int64)) := D5 (Or.inr (hw _ (List.mem_of_getElem? (i := 27) rfl))) (ty := .long) (by decide)
  have K6 : Keep h0 h5 [] := K4.ext E5
  obtain ⟨_, _, ⟨T7, L7, k7, n7⟩, -, X7, ⟨Lc7, hQ7, l7, y7, z7⟩, st7⟩ := X5.specialBack hx (y := (⟨"com/example/lessor/lessor/namespace/Binding", "<init>", "(Lcom/example/lessor/lessor/namespace/FileType;J)V"⟩ : MethodName)) rfl hown (mvT hZ (hw _ (List.mem_of_getElem? (i := 12) rfl))) (mvT hZ (hw _ (List.mem_of_getElem? (i := 13) rfl))) (mvT hZ (hw _ (List.mem_of_getElem? (i := 14) rfl))) (by decide) (backOf (W := 1) (rmBinding l Z a0 hw [] b5 rb idB .null (.long (0 : Int64)) h5 n0 (Nat.le_trans Z0 K6.1) E_b5 (((E_rb.ext E1).keep K3).ext E5) F_type_b5 g_b5 F_identifier_b5) hZ (hw _ (List.mem_of_getElem? (i := 14) rfl)) (hw _ (List.mem_of_getElem? (i := 11) rfl)) (by decide) (by decide)) (g := (mkF m 75 #[.val (.int p0), .val (.long q1), .second, .val (.int p2), .val (.long q3), .second, .val (.int p4), .val (.ref ra), .val (.ref rb), .val (.int how), .val (.long idB), .second, .val (.ref b1), .unset, .unset, .unset, .unset] [(.long idB), (.ref rb), (.ref b5), (.ref b5)])) rfl (by rw [hml]; rfl) (Steps.refl _) (a := b5) (argsL := [(.ref rb), (.long idB)]) (rest := [(.ref b5)]) (lenOf pd__Lcom_example_lessor_lessor_namespace_FileType_J_V rfl) rfl (by show 2 * 0 + _ ≤ _; exact Nat.le_of_eq rfl) (hb hby at_75) (fun _ _ => ⟨rfl, e5, (by decide : 2 + 0 ≤ _), (by decide : 4 + 0 ≤ _)⟩)
  dsimp only [Pt.U, Pt.locs, Pt.cells, Pt.slots] at X7 l7 y7 z7 st7 hQ7
  subst l7 y7 z7
  obtain ⟨rfl, N7q, K7, E7, Ff7, Fd7⟩ := hQ7
  have K8 : Keep h0 T7.heap [] := K6.trans K7 (allS (P := fun x => x ∈ [] ∨ h0.size ≤ x) (Or.inr sz_b5) all0)
  have N7 := Fr.app N3 N7q
  have ne_b1_b5 : b1 ≠ b5 := Nat.ne_of_lt (Nat.lt_of_lt_of_le E3.lt (Nat.le_of_eq g5.symm))
  obtain ⟨cq9, kq9, q9a, q9b, q9c⟩ := isOf hZ rfl ((E3.ext E5).keep K7)
  obtain ⟨_, _, ⟨T9, L9, k9, n9⟩, -, X9, ⟨Lc9, hQ9, l9, y9, z9⟩, st9⟩ := X7.virtualBack hx (y := (⟨"com/example/lessor/lessor/namespace/Binding", "equals", "(Ljava/lang/Object;)Z"⟩ : MethodName)) (z := (⟨"com/example/lessor/lessor/namespace/Binding", "equals", "(Ljava/lang/Object;)Z"⟩ : MethodName)) hown (mvT hZ (hw _ (List.mem_of_getElem? (i := 28) rfl))) (mvT hZ (hw _ (List.mem_of_getElem? (i := 29) rfl))) (notFace_of_selects (args := #[]) (mvT hZ (hw _ (List.mem_of_getElem? (i := 31) rfl)))) (mvT hZ (hw _ (List.mem_of_getElem? (i := 31) rfl))) (mvT hZ (hw _ (List.mem_of_getElem? (i := 30) rfl))) (by decide) (backOf (W := 0) (rmEq_tt l Z a0 hw [] b1 b5 ra rb q1 idB T7.heap n0 (Nat.le_trans Z0 K8.1) E7 ((Ff3.ext E5).keep K7 (ninS ne_b1_b5 nin0)) Ff7 ha84 ((Fd3.ext E5).keep K7 (ninS ne_b1_b5 nin0)) Fd7 hc91) hZ (hw _ (List.mem_of_getElem? (i := 32) rfl)) (hw _ (List.mem_of_getElem? (i := 11) rfl)) (by decide) (by decide)) q9a q9c (g := (mkF m 105 #[.val (.int p0), .val (.long q1), .second, .val (.int p2), .val (.long q3), .second, .val (.int p4), .val (.ref ra), .val (.ref rb), .val (.int how), .val (.long idB), .second, .val (.ref b1), .val (.ref b5), .val (.int (0 : Int32)), .unset, .unset] [(.ref b5), (.ref b1)])) rfl (by rw [hml]; rfl) (Steps.refl _) (argsL := [(.ref b5)]) (rest := []) (lenOf pd__Ljava_lang_Object__Z rfl) rfl (by show 2 * 0 + _ ≤ _; exact Nat.le_of_eq rfl) (hb hby at_105) (fun _ _ => ⟨rfl, rfl, (by decide : 2 + 0 ≤ _), (by decide : 4 + 0 ≤ _)⟩)
  dsimp only [Pt.U, Pt.locs, Pt.cells, Pt.slots] at X9 l9 y9 z9 st9 hQ9
  subst l9 y9 z9
  obtain ⟨rfl, N9q, e9⟩ := hQ9
  have N9 := Fr.app N7 N9q
  obtain ⟨cq10, kq10, q10a, q10b, q10c⟩ := isOf hZ e9 E7
  obtain ⟨_, _, ⟨T10, L10, k10, n10⟩, -, X10, ⟨Lc10, hQ10, l10, y10, z10⟩, st10⟩ := X9.virtualBack hx (y := (⟨"com/example/lessor/lessor/namespace/Binding", "equals", "(Ljava/lang/Object;)Z"⟩ : MethodName)) (z := (⟨"com/example/lessor/lessor/namespace/Binding", "equals", "(Ljava/lang/Object;)Z"⟩ : MethodName)) hown (mvT hZ (hw _ (List.mem_of_getElem? (i := 28) rfl))) (mvT hZ (hw _ (List.mem_of_getElem? (i := 29) rfl))) (notFace_of_selects (args := #[]) (mvT hZ (hw _ (List.mem_of_getElem? (i := 31) rfl)))) (mvT hZ (hw _ (List.mem_of_getElem? (i := 31) rfl))) (mvT hZ (hw _ (List.mem_of_getElem? (i := 30) rfl))) (by decide) (backOf (W := 0) (rmEq_tt l Z a0 hw [] b5 b1 rb ra idB q1 T7.heap n0 (Nat.le_trans Z0 K8.1) ((E3.ext E5).keep K7) Ff7 ((Ff3.ext E5).keep K7 (ninS ne_b1_b5 nin0)) (Eq.symm ha84) Fd7 ((Fd3.ext E5).keep K7 (ninS ne_b1_b5 nin0)) (fun q => hc91 (Eq.symm q))) hZ (hw _ (List.mem_of_getElem? (i := 32) rfl)) (hw _ (List.mem_of_getElem? (i := 11) rfl)) (by decide) (by decide)) q10a q10c (g := (mkF m 117 #[.val (.int p0), .val (.long q1), .second, .val (.int p2), .val (.long q3), .second, .val (.int p4), .val (.ref ra), .val (.ref rb), .val (.int how), .val (.long idB), .second, .val (.ref b1), .val (.ref b5), .val (.int (0 : Int32)), .unset, .unset] [(.ref b1), (.ref b5)])) rfl (by rw [hml]; rfl) (Steps.refl _) (argsL := [(.ref b1)]) (rest := []) (lenOf pd__Ljava_lang_Object__Z rfl) rfl (by show 2 * 0 + _ ≤ _; exact Nat.le_of_eq rfl) (hb hby at_117) (fun _ _ => ⟨rfl, e9, (by decide : 2 + 0 ≤ _), (by decide : 4 + 0 ≤ _)⟩)
  dsimp only [Pt.U, Pt.locs, Pt.cells, Pt.slots] at X10 l10 y10 z10 st10 hQ10
  subst l10 y10 z10
  obtain ⟨rfl, N10q, e10⟩ := hQ10
  have N10 := Fr.app N9 N10q
  obtain ⟨cq11, kq11, q11a, q11b, q11c⟩ := isOf hZ e10 ((E3.ext E5).keep K7)
  obtain ⟨_, _, ⟨T11, L11, k11, n11⟩, -, X11, ⟨Lc11, hQ11, l11, y11, z11⟩, st11⟩ := X10.virtualBack hx (y := (⟨"com/example/lessor/lessor/namespace/Binding", "equals", "(Ljava/lang/Object;)Z"⟩ : MethodName)) (z := (⟨"com/example/lessor/lessor/namespace/Binding", "equals", "(Ljava/lang/Object;)Z"⟩ : MethodName)) hown (mvT hZ (hw _ (List.mem_of_getElem? (i := 28) rfl))) (mvT hZ (hw _ (List.mem_of_getElem? (i := 29) rfl))) (notFace_of_selects (args := #[]) (mvT hZ (hw _ (List.mem_of_getElem? (i := 31) rfl)))) (mvT hZ (hw _ (List.mem_of_getElem? (i := 31) rfl))) (mvT hZ (hw _ (List.mem_of_getElem? (i := 30) rfl))) (by decide) (backOf (W := 0) (rmEq_null l Z a0 hw [] b1 T7.heap n0 (Nat.le_trans Z0 K8.1)) hZ (hw _ (List.mem_of_getElem? (i := 32) rfl)) (hw _ (List.mem_of_getElem? (i := 11) rfl)) (by decide) (by decide)) q11a q11c (g := (mkF m 155 #[.val (.int p0), .val (.long q1), .second, .val (.int p2), .val (.long q3), .second, .val (.int p4), .val (.ref ra), .val (.ref rb), .val (.int how), .val (.long idB), .second, .val (.ref b1), .val (.ref b5), .val (.int (0 : Int32)), .val (.int (1 : Int32)), .val (.int (((p4.toUInt32 >>> ((8 : Int32) &&& 31).toUInt32).toInt32) &&& (3 : Int32)))] [.null, (.ref b1)])) rfl (by rw [hml]; rfl) (Steps.refl _) (argsL := [.null]) (rest := []) (lenOf pd__Ljava_lang_Object__Z rfl) rfl (by show 2 * 0 + _ ≤ _; exact Nat.le_of_eq rfl) (hb hby at_155) (fun _ _ => ⟨rfl, e10, (by decide : 2 + 0 ≤ _), (by decide : 4 + 0 ≤ _)⟩)
  dsimp only [Pt.U, Pt.locs, Pt.cells, Pt.slots] at X11 l11 y11 z11 st11 hQ11
  subst l11 y11 z11
  obtain ⟨rfl, N11q, e11⟩ := hQ11
  have N11 := Fr.app N10 N11q
  obtain ⟨fs, hr, hrun, hended, hW, hsame⟩ := X11.leave (v := some (.int (1 : Int32))) (fun h => by rw [hret] at h; cases h)
  refine ⟨_, _, ?_, hrun, hended, _, _, rfl, ⟨rfl, N11⟩, ⟨_, rfl⟩, hW, hsame.mono (by decide) (by decide)⟩
  show Steps p.tables e below (s₁.setTop (mkF m 55 #[.val (.int p0), .val (.long q1), .second, .val (.int p2), .val (.long q3), .second, .val (.int p4), .val (.ref ra), .val (.ref rb), .val (.int how), .val (.long idB), .second, .unset, .unset, .unset, .unset, .unset] [])) _
  refine st1 _ ?_
  show Steps p.tables e below (T1.setTop (mkF m 58 #[.val (.int p0), .val (.long q1), .second, .val (.int p2), .val (.long q3), .second, .val (.int p4), .val (.ref ra), .val (.ref rb), .val (.int how), .val (.long idB), .second, .unset, .unset, .unset, .unset, .unset] [(.ref b1)])) _
  refine XS.dup X1.here hx rfl (hb hby at_58) rfl rfl ?_
  show Steps p.tables e below (T1.setTop (mkF m 59 #[.val (.int p0), .val (.long q1), .second, .val (.int p2), .val (.long q3), .second, .val (.int p4), .val (.ref ra), .val (.ref rb), .val (.int how), .val (.long idB), .second, .unset, .unset, .unset, .unset, .unset] [(.ref b1), (.ref b1)])) _
  refine XS.aload X1.here hx rfl (hb hby at_59) rfl rfl ?_
  show Steps p.tables e below (T1.setTop (mkF m 61 #[.val (.int p0), .val (.long q1), .second, .val (.int p2), .val (.long q3), .second, .val (.int p4), .val (.ref ra), .val (.ref rb), .val (.int how), .val (.long idB), .second, .unset, .unset, .unset, .unset, .unset] [(.ref ra), (.ref b1), (.ref b1)])) _
  refine XS.lloadN X1.here hx rfl (hb hby at_61) rfl ?_
  show Steps p.tables e below (T1.setTop (mkF m 62 #[.val (.int p0), .val (.long q1), .second, .val (.int p2), .val (.long q3), .second, .val (.int p4), .val (.ref ra), .val (.ref rb), .val (.int how), .val (.long idB), .second, .unset, .unset, .unset, .unset, .unset] [(.long q1), (.ref ra), (.ref b1), (.ref b1)])) _
  refine st3.trans ?_
  show Steps p.tables e below (T3.setTop (mkF m 65 #[.val (.int p0), .val (.long q1), .second, .val (.int p2), .val (.long q3), .second, .val (.int p4), .val (.ref ra), .val (.ref rb), .val (.int how), .val (.long idB), .second, .unset, .unset, .unset, .unset, .unset] [(.ref b1)])) _
  refine XS.astore X3.here hx rfl (hb hby at_65) rfl rfl (l' := #[.val (.int p0), .val (.long q1), .second, .val (.int p2), .val (.long q3), .second, .val (.int p4), .val (.ref ra), .val (.ref rb), .val (.int how), .val (.long idB), .second, .val (.ref b1), .unset, .unset, .unset, .unset]) rfl ?_
  show Steps p.tables e below (T3.setTop (mkF m 67 #[.val (.int p0), .val (.long q1), .second, .val (.int p2), .val (.long q3), .second, .val (.int p4), .val (.ref ra), .val (.ref rb), .val (.int how), .val (.long idB), .second, .val (.ref b1), .unset, .unset, .unset, .unset] [])) _
  refine st5 _ ?_
  show Steps p.tables e below (T5.setTop (mkF m 70 #[.val (.int p0), .val (.long q1), .second, .val (.int p2), .val (.long q3), .second, .val (.int p4), .val (.ref ra), .val (.ref rb), .val (.int how), .val (.long idB), .second, .val (.ref b1), .unset, .unset, .unset, .unset] [(.ref b5)])) _
  refine XS.dup X5.here hx rfl (hb hby at_70) rfl rfl ?_
  show Steps p.tables e below (T5.setTop (mkF m 71 #[.val (.int p0), .val (.long q1), .second, .val (.int p2), .val (.long q3), .second, .val (.int p4), .val (.ref ra), .val (.ref rb), .val (.int how), .val (.long idB), .second, .val (.ref b1), .unset, .unset, .unset, .unset] [(.ref b5), (.ref b5)])) _
  refine XS.aload X5.here hx rfl (hb hby at_71) rfl rfl ?_
  show Steps p.tables e below (T5.setTop (mkF m 73 #[.val (.int p0), .val (.long q1), .second, .val (.int p2), .val (.long q3), .second, .val (.int p4), .val (.ref ra), .val (.ref rb), .val (.int how), .val (.long idB), .second, .val (.ref b1), .unset, .unset, .unset, .unset] [(.ref rb), (.ref b5), (.ref b5)])) _
  refine XS.lload X5.here hx rfl (hb hby at_73) rfl ?_
  show Steps p.tables e below (T5.setTop (mkF m 75 #[.val (.int p0), .val (.long q1), .second, .val (.int p2), .val (.long q3), .second, .val (.int p4), .val (.ref ra), .val (.ref rb), .val (.int how), .val (.long idB), .second, .val (.ref b1), .unset, .unset, .unset, .unset] [(.long idB), (.ref rb), (.ref b5), (.ref b5)])) _
  refine st7.trans ?_
  show Steps p.tables e below (T7.setTop (mkF m 78 #[.val (.int p0), .val (.long q1), .second, .val (.int p2), .val (.long q3), .second, .val (.int p4), .val (.ref ra), .val (.ref rb), .val (.int how), .val (.long idB), .second, .val (.ref b1), .unset, .unset, .unset, .unset] [(.ref b5)])) _
  refine XS.astore X7.here hx rfl (hb hby at_78) rfl rfl (l' := #[.val (.int p0), .val (.long q1), .second, .val (.int p2), .val (.long q3), .second, .val (.int p4), .val (.ref ra), .val (.ref rb), .val (.int how), .val (.long idB), .second, .val (.ref b1), .val (.ref b5), .unset, .unset, .unset]) rfl ?_
  show Steps p.tables e below (T7.setTop (mkF m 80 #[.val (.int p0), .val (.long q1), .second, .val (.int p2), .val (.long q3), .second, .val (.int p4), .val (.ref ra), .val (.ref rb), .val (.int how), .val (.long idB), .second, .val (.ref b1), .val (.ref b5), .unset, .unset, .unset] [])) _
  refine XS.aload X7.here hx rfl (hb hby at_80) rfl rfl ?_
  show Steps p.tables e below (T7.setTop (mkF m 82 #[.val (.int p0), .val (.long q1), .second, .val (.int p2), .val (.long q3), .second, .val (.int p4), .val (.ref ra), .val (.ref rb), .val (.int how), .val (.long idB), .second, .val (.ref b1), .val (.ref b5), .unset, .unset, .unset] [(.ref ra)])) _
  refine XS.aload X7.here hx rfl (hb hby at_82) rfl rfl ?_
  show Steps p.tables e below (T7.setTop (mkF m 84 #[.val (.int p0), .val (.long q1), .second, .val (.int p2), .val (.long q3), .second, .val (.int p4), .val (.ref ra), .val (.ref rb), .val (.int how), .val (.long idB), .second, .val (.ref b1), .val (.ref b5), .unset, .unset, .unset] [(.ref rb), (.ref ra)])) _
  refine Jvm.RoadKit.acmp (g := (mkF m 84 #[.val (.int p0), .val (.long q1), .second, .val (.int p2), .val (.long q3), .second, .val (.int p4), .val (.ref ra), .val (.ref rb), .val (.int how), .val (.long idB), .second, .val (.ref b1), .val (.ref b5), .unset, .unset, .unset] [(.ref rb), (.ref ra)])) X7 hx rfl rfl rfl (pc0 := 84) (pc' := 87) (same := true) rfl (hb hby at_84) rfl (decide_eq_true (congrArg Value.ref ha84)) (by decide) (by decide) ?_
  show Steps p.tables e below (T7.setTop (mkF m 87 #[.val (.int p0), .val (.long q1), .second, .val (.int p2), .val (.long q3), .second, .val (.int p4), .val (.ref ra), .val (.ref rb), .val (.int how), .val (.long idB), .second, .val (.ref b1), .val (.ref b5), .unset, .unset, .unset] [])) _
  refine XS.lloadN X7.here hx rfl (hb hby at_87) rfl ?_
  show Steps p.tables e below (T7.setTop (mkF m 88 #[.val (.int p0), .val (.long q1), .second, .val (.int p2), .val (.long q3), .second, .val (.int p4), .val (.ref ra), .val (.ref rb), .val (.int how), .val (.long idB), .second, .val (.ref b1), .val (.ref b5), .unset, .unset, .unset] [(.long q1)])) _
  refine XS.lload X7.here hx rfl (hb hby at_88) rfl ?_
  show Steps p.tables e below (T7.setTop (mkF m 90 #[.val (.int p0), .val (.long q1), .second, .val (.int p2), .val (.long q3), .second, .val (.int p4), .val (.ref ra), .val (.ref rb), .val (.int how), .val (.long idB), .second, .val (.ref b1), .val (.ref b5), .unset, .unset, .unset] [(.long idB), (.long q1)])) _
  refine XS.lcmp X7.here hx rfl (hb hby at_90) rfl ?_
  show Steps p.tables e below (T7.setTop (mkF m 91 #[.val (.int p0), .val (.long q1), .second, .val (.int p2), .val (.long q3), .second, .val (.int p4), .val (.ref ra), .val (.ref rb), .val (.int how), .val (.long idB), .second, .val (.ref b1), .val (.ref b5), .unset, .unset, .unset] [(.int (lcmpW q1 idB))])) _
  refine XS.ifYes X7.here hx rfl (pc0 := 91) (pc' := 98) rfl (hb hby at_91) rfl ((if0 _ _).trans (feq (fun q => hc91 ((lw_eq q1 idB).mp q))).2) (by decide) (by decide) ?_
  show Steps p.tables e below (T7.setTop (mkF m 98 #[.val (.int p0), .val (.long q1), .second, .val (.int p2), .val (.long q3), .second, .val (.int p4), .val (.ref ra), .val (.ref rb), .val (.int how), .val (.long idB), .second, .val (.ref b1), .val (.ref b5), .unset, .unset, .unset] [])) _
  refine XS.iconst X7.here hx rfl (hb hby at_98) ?_
  show Steps p.tables e below (T7.setTop (mkF m 99 #[.val (.int p0), .val (.long q1), .second, .val (.int p2), .val (.long q3), .second, .val (.int p4), .val (.ref ra), .val (.ref rb), .val (.int how), .val (.long idB), .second, .val (.ref b1), .val (.ref b5), .unset, .unset, .unset] [(.int (0 : Int32))])) _
  refine XS.istore X7.here hx rfl (hb hby at_99) rfl (l' := #[.val (.int p0), .val (.long q1), .second, .val (.int p2), .val (.long q3), .second, .val (.int p4), .val (.ref ra), .val (.ref rb), .val (.int how), .val (.long idB), .second, .val (.ref b1), .val (.ref b5), .val (.int (0 : Int32)), .unset, .unset]) rfl ?_
  show Steps p.tables e below (T7.setTop (mkF m 101 #[.val (.int p0), .val (.long q1), .second, .val (.int p2), .val (.long q3), .second, .val (.int p4), .val (.ref ra), .val (.ref rb), .val (.int how), .val (.long idB), .second, .val (.ref b1), .val (.ref b5), .val (.int (0 : Int32)), .unset, .unset] [])) _
  refine XS.aload X7.here hx rfl (hb hby at_101) rfl rfl ?_
  show Steps p.tables e below (T7.setTop (mkF m 103 #[.val (.int p0), .val (.long q1), .second, .val (.int p2), .val (.long q3), .second, .val (.int p4), .val (.ref ra), .val (.ref rb), .val (.int how), .val (.long idB), .second, .val (.ref b1), .val (.ref b5), .val (.int (0 : Int32)), .unset, .unset] [(.ref b1)])) _
  refine XS.aload X7.here hx rfl (hb hby at_103) rfl rfl ?_
  show Steps p.tables e below (T7.setTop (mkF m 105 #[.val (.int p0), .val (.long q1), .second, .val (.int p2), .val (.long q3), .second, .val (.int p4), .val (.ref ra), .val (.ref rb), .val (.int how), .val (.long idB), .second, .val (.ref b1), .val (.ref b5), .val (.int (0 : Int32)), .unset, .unset] [(.ref b5), (.ref b1)])) _
  refine st9.trans ?_
  show Steps p.tables e below (T9.setTop (mkF m 108 #[.val (.int p0), .val (.long q1), .second, .val (.int p2), .val (.long q3), .second, .val (.int p4), .val (.ref ra), .val (.ref rb), .val (.int how), .val (.long idB), .second, .val (.ref b1), .val (.ref b5), .val (.int (0 : Int32)), .unset, .unset] [(.int (0 : Int32))])) _
  refine XS.iload X9.here hx rfl (hb hby at_108) rfl ?_
  show Steps p.tables e below (T9.setTop (mkF m 110 #[.val (.int p0), .val (.long q1), .second, .val (.int p2), .val (.long q3), .second, .val (.int p4), .val (.ref ra), .val (.ref rb), .val (.int how), .val (.long idB), .second, .val (.ref b1), .val (.ref b5), .val (.int (0 : Int32)), .unset, .unset] [(.int (0 : Int32)), (.int (0 : Int32))])) _
  refine XS.icmpNo X9.here hx rfl (hb hby at_110) rfl (teq (by decide)).2 ?_
  show Steps p.tables e below (T9.setTop (mkF m 113 #[.val (.int p0), .val (.long q1), .second, .val (.int p2), .val (.long q3), .second, .val (.int p4), .val (.ref ra), .val (.ref rb), .val (.int how), .val (.long idB), .second, .val (.ref b1), .val (.ref b5), .val (.int (0 : Int32)), .unset, .unset] [])) _
  refine XS.aload X9.here hx rfl (hb hby at_113) rfl rfl ?_
  show Steps p.tables e below (T9.setTop (mkF m 115 #[.val (.int p0), .val (.long q1), .second, .val (.int p2), .val (.long q3), .second, .val (.int p4), .val (.ref ra), .val (.ref rb), .val (.int how), .val (.long idB), .second, .val (.ref b1), .val (.ref b5), .val (.int (0 : Int32)), .unset, .unset] [(.ref b5)])) _
  refine XS.aload X9.here hx rfl (hb hby at_115) rfl rfl ?_
  show Steps p.tables e below (T9.setTop (mkF m 117 #[.val (.int p0), .val (.long q1), .second, .val (.int p2), .val (.long q3), .second, .val (.int p4), .val (.ref ra), .val (.ref rb), .val (.int how), .val (.long idB), .second, .val (.ref b1), .val (.ref b5), .val (.int (0 : Int32)), .unset, .unset] [(.ref b1), (.ref b5)])) _
  refine st10.trans ?_
  show Steps p.tables e below (T10.setTop (mkF m 120 #[.val (.int p0), .val (.long q1), .second, .val (.int p2), .val (.long q3), .second, .val (.int p4), .val (.ref ra), .val (.ref rb), .val (.int how), .val (.long idB), .second, .val (.ref b1), .val (.ref b5), .val (.int (0 : Int32)), .unset, .unset] [(.int (0 : Int32))])) _
  refine XS.iload X10.here hx rfl (hb hby at_120) rfl ?_
  show Steps p.tables e below (T10.setTop (mkF m 122 #[.val (.int p0), .val (.long q1), .second, .val (.int p2), .val (.long q3), .second, .val (.int p4), .val (.ref ra), .val (.ref rb), .val (.int how), .val (.long idB), .second, .val (.ref b1), .val (.ref b5), .val (.int (0 : Int32)), .unset, .unset] [(.int (0 : Int32)), (.int (0 : Int32))])) _
  refine XS.icmpNo X10.here hx rfl (hb hby at_122) rfl (teq (by decide)).2 ?_
  show Steps p.tables e below (T10.setTop (mkF m 125 #[.val (.int p0), .val (.long q1), .second, .val (.int p2), .val (.long q3), .second, .val (.int p4), .val (.ref ra), .val (.ref rb), .val (.int how), .val (.long idB), .second, .val (.ref b1), .val (.ref b5), .val (.int (0 : Int32)), .unset, .unset] [])) _
  refine XS.iconst X10.here hx rfl (hb hby at_125) ?_
  show Steps p.tables e below (T10.setTop (mkF m 126 #[.val (.int p0), .val (.long q1), .second, .val (.int p2), .val (.long q3), .second, .val (.int p4), .val (.ref ra), .val (.ref rb), .val (.int how), .val (.long idB), .second, .val (.ref b1), .val (.ref b5), .val (.int (0 : Int32)), .unset, .unset] [(.int (1 : Int32))])) _
  refine XS.goto X10.here hx rfl (pc0 := 126) (pc' := 130) rfl (hb hby at_126) (by decide) (by decide) ?_
  show Steps p.tables e below (T10.setTop (mkF m 130 #[.val (.int p0), .val (.long q1), .second, .val (.int p2), .val (.long q3), .second, .val (.int p4), .val (.ref ra), .val (.ref rb), .val (.int how), .val (.long idB), .second, .val (.ref b1), .val (.ref b5), .val (.int (0 : Int32)), .unset, .unset] [(.int (1 : Int32))])) _
  refine XS.istore X10.here hx rfl (hb hby at_130) rfl (l' := #[.val (.int p0), .val (.long q1), .second, .val (.int p2), .val (.long q3), .second, .val (.int p4), .val (.ref ra), .val (.ref rb), .val (.int how), .val (.long idB), .second, .val (.ref b1), .val (.ref b5), .val (.int (0 : Int32)), .val (.int (1 : Int32)), .unset]) rfl ?_
  show Steps p.tables e below (T10.setTop (mkF m 132 #[.val (.int p0), .val (.long q1), .second, .val (.int p2), .val (.long q3), .second, .val (.int p4), .val (.ref ra), .val (.ref rb), .val (.int how), .val (.long idB), .second, .val (.ref b1), .val (.ref b5), .val (.int (0 : Int32)), .val (.int (1 : Int32)), .unset] [])) _
  refine XS.iload X10.here hx rfl (hb hby at_132) rfl ?_
  show Steps p.tables e below (T10.setTop (mkF m 134 #[.val (.int p0), .val (.long q1), .second, .val (.int p2), .val (.long q3), .second, .val (.int p4), .val (.ref ra), .val (.ref rb), .val (.int how), .val (.long idB), .second, .val (.ref b1), .val (.ref b5), .val (.int (0 : Int32)), .val (.int (1 : Int32)), .unset] [(.int p4)])) _
  refine XS.bipush X10.here hx rfl (hb hby at_134) ?_
  show Steps p.tables e below (T10.setTop (mkF m 136 #[.val (.int p0), .val (.long q1), .second, .val (.int p2), .val (.long q3), .second, .val (.int p4), .val (.ref ra), .val (.ref rb), .val (.int how), .val (.long idB), .second, .val (.ref b1), .val (.ref b5), .val (.int (0 : Int32)), .val (.int (1 : Int32)), .unset] [(.int (8 : Int32)), (.int p4)])) _
  refine XS.iushr X10.here hx rfl (hb hby at_136) rfl ?_
  show Steps p.tables e below (T10.setTop (mkF m 137 #[.val (.int p0), .val (.long q1), .second, .val (.int p2), .val (.long q3), .second, .val (.int p4), .val (.ref ra), .val (.ref rb), .val (.int how), .val (.long idB), .second, .val (.ref b1), .val (.ref b5), .val (.int (0 : Int32)), .val (.int (1 : Int32)), .unset] [(.int ((p4.toUInt32 >>> ((8 : Int32) &&& 31).toUInt32).toInt32))])) _
  refine XS.iconst X10.here hx rfl (hb hby at_137) ?_
  show Steps p.tables e below (T10.setTop (mkF m 138 #[.val (.int p0), .val (.long q1), .second, .val (.int p2), .val (.long q3), .second, .val (.int p4), .val (.ref ra), .val (.ref rb), .val (.int how), .val (.long idB), .second, .val (.ref b1), .val (.ref b5), .val (.int (0 : Int32)), .val (.int (1 : Int32)), .unset] [(.int (3 : Int32)), (.int ((p4.toUInt32 >>> ((8 : Int32) &&& 31).toUInt32).toInt32))])) _
  refine XS.iand X10.here hx rfl (hb hby at_138) rfl ?_
  show Steps p.tables e below (T10.setTop (mkF m 139 #[.val (.int p0), .val (.long q1), .second, .val (.int p2), .val (.long q3), .second, .val (.int p4), .val (.ref ra), .val (.ref rb), .val (.int how), .val (.long idB), .second, .val (.ref b1), .val (.ref b5), .val (.int (0 : Int32)), .val (.int (1 : Int32)), .unset] [(.int (((p4.toUInt32 >>> ((8 : Int32) &&& 31).toUInt32).toInt32) &&& (3 : Int32)))])) _
  refine XS.istore X10.here hx rfl (hb hby at_139) rfl (l' := #[.val (.int p0), .val (.long q1), .second, .val (.int p2), .val (.long q3), .second, .val (.int p4), .val (.ref ra), .val (.ref rb), .val (.int how), .val (.long idB), .second, .val (.ref b1), .val (.ref b5), .val (.int (0 : Int32)), .val (.int (1 : Int32)), .val (.int (((p4.toUInt32 >>> ((8 : Int32) &&& 31).toUInt32).toInt32) &&& (3 : Int32)))]) rfl ?_
  show Steps p.tables e below (T10.setTop (mkF m 141 #[.val (.int p0), .val (.long q1), .second, .val (.int p2), .val (.long q3), .second, .val (.int p4), .val (.ref ra), .val (.ref rb), .val (.int how), .val (.long idB), .second, .val (.ref b1), .val (.ref b5), .val (.int (0 : Int32)), .val (.int (1 : Int32)), .val (.int (((p4.toUInt32 >>> ((8 : Int32) &&& 31).toUInt32).toInt32) &&& (3 : Int32)))] [])) _
  refine XS.iload X10.here hx rfl (hb hby at_141) rfl ?_
  show Steps p.tables e below (T10.setTop (mkF m 143 #[.val (.int p0), .val (.long q1), .second, .val (.int p2), .val (.long q3), .second, .val (.int p4), .val (.ref ra), .val (.ref rb), .val (.int how), .val (.long idB), .second, .val (.ref b1), .val (.ref b5), .val (.int (0 : Int32)), .val (.int (1 : Int32)), .val (.int (((p4.toUInt32 >>> ((8 : Int32) &&& 31).toUInt32).toInt32) &&& (3 : Int32)))] [(.int (((p4.toUInt32 >>> ((8 : Int32) &&& 31).toUInt32).toInt32) &&& (3 : Int32)))])) _
  refine XS.iconst X10.here hx rfl (hb hby at_143) ?_
  show Steps p.tables e below (T10.setTop (mkF m 144 #[.val (.int p0), .val (.long q1), .second, .val (.int p2), .val (.long q3), .second, .val (.int p4), .val (.ref ra), .val (.ref rb), .val (.int how), .val (.long idB), .second, .val (.ref b1), .val (.ref b5), .val (.int (0 : Int32)), .val (.int (1 : Int32)), .val (.int (((p4.toUInt32 >>> ((8 : Int32) &&& 31).toUInt32).toInt32) &&& (3 : Int32)))] [(.int (1 : Int32)), (.int (((p4.toUInt32 >>> ((8 : Int32) &&& 31).toUInt32).toInt32) &&& (3 : Int32)))])) _
  refine XS.icmpNo X10.here hx rfl (hb hby at_144) rfl (teq hc144).2 ?_
  show Steps p.tables e below (T10.setTop (mkF m 147 #[.val (.int p0), .val (.long q1), .second, .val (.int p2), .val (.long q3), .second, .val (.int p4), .val (.ref ra), .val (.ref rb), .val (.int how), .val (.long idB), .second, .val (.ref b1), .val (.ref b5), .val (.int (0 : Int32)), .val (.int (1 : Int32)), .val (.int (((p4.toUInt32 >>> ((8 : Int32) &&& 31).toUInt32).toInt32) &&& (3 : Int32)))] [])) _
  refine XS.iload X10.here hx rfl (hb hby at_147) rfl ?_
  show Steps p.tables e below (T10.setTop (mkF m 149 #[.val (.int p0), .val (.long q1), .second, .val (.int p2), .val (.long q3), .second, .val (.int p4), .val (.ref ra), .val (.ref rb), .val (.int how), .val (.long idB), .second, .val (.ref b1), .val (.ref b5), .val (.int (0 : Int32)), .val (.int (1 : Int32)), .val (.int (((p4.toUInt32 >>> ((8 : Int32) &&& 31).toUInt32).toInt32) &&& (3 : Int32)))] [(.int (1 : Int32))])) _
  refine XS.ifNo X10.here hx rfl (hb hby at_149) rfl ((if0 _ _).trans (feq (by decide)).1) ?_
  show Steps p.tables e below (T10.setTop (mkF m 152 #[.val (.int p0), .val (.long q1), .second, .val (.int p2), .val (.long q3), .second, .val (.int p4), .val (.ref ra), .val (.ref rb), .val (.int how), .val (.long idB), .second, .val (.ref b1), .val (.ref b5), .val (.int (0 : Int32)), .val (.int (1 : Int32)), .val (.int (((p4.toUInt32 >>> ((8 : Int32) &&& 31).toUInt32).toInt32) &&& (3 : Int32)))] [])) _
  refine XS.aload X10.here hx rfl (hb hby at_152) rfl rfl ?_
  show Steps p.tables e below (T10.setTop (mkF m 154 #[.val (.int p0), .val (.long q1), .second, .val (.int p2), .val (.long q3), .second, .val (.int p4), .val (.ref ra), .val (.ref rb), .val (.int how), .val (.long idB), .second, .val (.ref b1), .val (.ref b5), .val (.int (0 : Int32)), .val (.int (1 : Int32)), .val (.int (((p4.toUInt32 >>> ((8 : Int32) &&& 31).toUInt32).toInt32) &&& (3 : Int32)))] [(.ref b1)])) _
  refine XS.aconstNull X10.here hx rfl (hb hby at_154) ?_
  show Steps p.tables e below (T10.setTop (mkF m 155 #[.val (.int p0), .val (.long q1), .second, .val (.int p2), .val (.long q3), .second, .val (.int p4), .val (.ref ra), .val (.ref rb), .val (.int how), .val (.long idB), .second, .val (.ref b1), .val (.ref b5), .val (.int (0 : Int32)), .val (.int (1 : Int32)), .val (.int (((p4.toUInt32 >>> ((8 : Int32) &&& 31).toUInt32).toInt32) &&& (3 : Int32)))] [.null, (.ref b1)])) _
  refine st11.trans ?_
  show Steps p.tables e below (T11.setTop (mkF m 158 #[.val (.int p0), .val (.long q1), .second, .val (.int p2), .val (.long q3), .second, .val (.int p4), .val (.ref ra), .val (.ref rb), .val (.int how), .val (.long idB), .second, .val (.ref b1), .val (.ref b5), .val (.int (0 : Int32)), .val (.int (1 : Int32)), .val (.int (((p4.toUInt32 >>> ((8 : Int32) &&& 31).toUInt32).toInt32) &&& (3 : Int32)))] [(.int (0 : Int32))])) _
  refine XS.ifNo X11.here hx rfl (hb hby at_158) rfl ((if0 _ _).trans (teq (by decide)).2) ?_
  show Steps p.tables e below (T11.setTop (mkF m 161 #[.val (.int p0), .val (.long q1), .second, .val (.int p2), .val (.long q3), .second, .val (.int p4), .val (.ref ra), .val (.ref rb), .val (.int how), .val (.long idB), .second, .val (.ref b1), .val (.ref b5), .val (.int (0 : Int32)), .val (.int (1 : Int32)), .val (.int (((p4.toUInt32 >>> ((8 : Int32) &&& 31).toUInt32).toInt32) &&& (3 : Int32)))] [])) _
  refine XS.iconst X11.here hx rfl (hb hby at_161) ?_
  show Steps p.tables e below (T11.setTop (mkF m 162 #[.val (.int p0), .val (.long q1), .second, .val (.int p2), .val (.long q3), .second, .val (.int p4), .val (.ref ra), .val (.ref rb), .val (.int how), .val (.long idB), .second, .val (.ref b1), .val (.ref b5), .val (.int (0 : Int32)), .val (.int (1 : Int32)), .val (.int (((p4.toUInt32 >>> ((8 : Int32) &&& 31).toUInt32).toInt32) &&& (3 : Int32)))] [(.int (1 : Int32))])) _
  refine XS.goto X11.here hx rfl (pc0 := 162) (pc' := 166) rfl (hb hby at_162) (by decide) (by decide) ?_
  show Steps p.tables e below (T11.setTop (mkF m 166 #[.val (.int p0), .val (.long q1), .second, .val (.int p2), .val (.long q3), .second, .val (.int p4), .val (.ref ra), .val (.ref rb), .val (.int how), .val (.long idB), .second, .val (.ref b1), .val (.ref b5), .val (.int (0 : Int32)), .val (.int (1 : Int32)), .val (.int (((p4.toUInt32 >>> ((8 : Int32) &&& 31).toUInt32).toInt32) &&& (3 : Int32)))] [(.int (1 : Int32))])) _
  refine XS.istore X11.here hx rfl (hb hby at_166) rfl (l' := #[.val (.int p0), .val (.long q1), .second, .val (.int p2), .val (.long q3), .second, .val (.int p4), .val (.ref ra), .val (.ref rb), .val (.int how), .val (.long idB), .second, .val (.ref b1), .val (.ref b5), .val (.int (0 : Int32)), .val (.int (1 : Int32)), .val (.int (((p4.toUInt32 >>> ((8 : Int32) &&& 31).toUInt32).toInt32) &&& (3 : Int32)))]) rfl ?_
  show Steps p.tables e below (T11.setTop (mkF m 168 #[.val (.int p0), .val (.long q1), .second, .val (.int p2), .val (.long q3), .second, .val (.int p4), .val (.ref ra), .val (.ref rb), .val (.int how), .val (.long idB), .second, .val (.ref b1), .val (.ref b5), .val (.int (0 : Int32)), .val (.int (1 : Int32)), .val (.int (((p4.toUInt32 >>> ((8 : Int32) &&& 31).toUInt32).toInt32) &&& (3 : Int32)))] [])) _
  refine XS.goto X11.here hx rfl (pc0 := 168) (pc' := 232) rfl (hb hby at_168) (by decide) (by decide) ?_
  show Steps p.tables e below (T11.setTop (mkF m 232 #[.val (.int p0), .val (.long q1), .second, .val (.int p2), .val (.long q3), .second, .val (.int p4), .val (.ref ra), .val (.ref rb), .val (.int how), .val (.long idB), .second, .val (.ref b1), .val (.ref b5), .val (.int (0 : Int32)), .val (.int (1 : Int32)), .val (.int (((p4.toUInt32 >>> ((8 : Int32) &&& 31).toUInt32).toInt32) &&& (3 : Int32)))] [])) _
  refine XS.iload X11.here hx rfl (hb hby at_232) rfl ?_
  show Steps p.tables e below (T11.setTop (mkF m 234 #[.val (.int p0), .val (.long q1), .second, .val (.int p2), .val (.long q3), .second, .val (.int p4), .val (.ref ra), .val (.ref rb), .val (.int how), .val (.long idB), .second, .val (.ref b1), .val (.ref b5), .val (.int (0 : Int32)), .val (.int (1 : Int32)), .val (.int (((p4.toUInt32 >>> ((8 : Int32) &&& 31).toUInt32).toInt32) &&& (3 : Int32)))] [(.int (1 : Int32))])) _
  exact retN X11 hx (t := .boolean) hret (by simp) (hb hby at_234) hr
set_option maxRecDepth 65536 in
set_option maxHeartbeats 40000000 in
theorem tail_tff (l : Launch) (Z : State) (a0 : Array Value) (hw : ∀ d ∈ tables_1, d.before a0 Z = true) (p0 : Int32) (q1 : Int64) (p2 : Int32) (q3 : Int64) (p4 : Int32) (ra : Addr) (rb : Addr) (how : Int32) (idB : Int64) (h0 : Heap) (n0 : Nat) (Z0 : n0 ≤ h0.size) (E_ra : Exa Z h0 ra "com/example/lessor/lessor/namespace/FileType") (E_rb : Exa Z h0 rb "com/example/lessor/lessor/namespace/FileType") (ha84 : ra = rb) (hc91 : q1 = idB) (hc144 : (((p4.toUInt32 >>> ((8 : Int32) &&& 31).toUInt32).toInt32) &&& (3 : Int32)) = (1 : Int32))
    {p : Program} {e : Env} {s : State} {m : MethodId} {args : Array Value} {below : List Frame} {meth : Method} {c : Code} {s₁ : State} {locs : List Loc} (X0 : Stand p l e room_1 s m args below meth c s₁ locs 0 0) (N0 : Fr n0 locs) (hx : p.tables.exec = Jvm.exec) (hZ : Z.Warmed39 s.vm) (hby : c.code = code) (hml : c.maxLocals = 17) (hown : s.vm.findClass "com/example/lessor/lessor/namespace/BindingEqualsPinLaw" = some m.cls) (hret : meth.sig.returnType = ret) (hlk : meth.locks = false) (e0 : s₁.heap = h0) :
    ∃ s₂ o, Steps p.tables e below (s₁.setTop (mkF m 55 #[.val (.int p0), .val (.long q1), .second, .val (.int p2), .val (.long q3), .second, .val (.int p4), .val (.ref ra), .val (.ref rb), .val (.int how), .val (.long idB), .second, .unset, .unset, .unset, .unset, .unset] [])) s₂ ∧ s₂.status = .running ∧ Ended s₂ below o ∧ (∃ v L, o = .returned v ∧ (v = some (.int (1 : Int32)) ∧ Fr n0 L) ∧ FrameEnd s o s₂ L room_1.cells room_1.slots) := by
  obtain ⟨T1, h1, X1, e1, E1, A1, D1, -, st1⟩ := newO X0 hx hZ hown (hw _ (List.mem_of_getElem? (i := 9) rfl)) (hw _ (List.mem_of_getElem? (i := 10) rfl)) (hw _ (List.mem_of_getElem? (i := 11) rfl)) e0 (g := (mkF m 55 #[.val (.int p0), .val (.long q1), .second, .val (.int p2), .val (.long q3), .second, .val (.int p4), .val (.ref ra), .val (.ref rb), .val (.int how), .val (.long idB), .second, .unset, .unset, .unset, .unset, .unset] [])) rfl (hb hby at_55) (by decide) (by decide)
  obtain ⟨b1, g1⟩ : ∃ z, z = h0.size := ⟨_, rfl⟩
  rw [← g1] at A1 D1 st1
  have g_b1 : n0 ≤ b1 := Nat.le_trans Z0 (Nat.le_of_eq g1.symm)
  have sz_b1 : h0.size ≤ b1 := Nat.le_trans (Keep.refl h0 []).1 (Nat.le_of_eq g1.symm)
  have E_b1 := A1
  have F_type_b1 : Fld Z h1 b1 "com/example/lessor/lessor/namespace/Binding" "type" "Lcom/example/lessor/lessor/namespace/FileType;" .null := D1 (Or.inr (hw _ (List.mem_of_getElem? (i := 25) rfl))) (ty := (.object "com/example/lessor/lessor/namespace/FileType")) (by decide)
  have F_identifier_b1 : Fld Z h1 b1 "com/example/lessor/lessor/namespace/Binding" "identifier" "J" (.long (0 : Int64)) := D1 (Or.inr (hw _ (List.mem_of_getElem? (i := 27) rfl))) (ty := .long) (by decide)
  have K2 : Keep h0 h1 [] := (Keep.refl h0 []).ext E1
  obtain ⟨_, _, ⟨T3, L3, k3, n3⟩, -, X3, ⟨Lc3, hQ3, l3, y3, z3⟩, st3⟩ := X1.specialBack hx (y := (⟨"com/example/lessor/lessor/namespace/Binding", "<init>", "(Lcom/example/lessor/lessor/namespace/FileType;J)V"⟩ : MethodName)) rfl hown (mvT hZ (hw _ (List.mem_of_getElem? (i := 12) rfl))) (mvT hZ (hw _ (List.mem_of_getElem? (i := 13) rfl))) (mvT hZ (hw _ (List.mem_of_getElem? (i := 14) rfl))) (by decide) (backOf (W := 1) (rmBinding l Z a0 hw [] b1 ra q1 .null (.long (0 : Int64)) h1 n0 (Nat.le_trans Z0 K2.1) E_b1 (E_ra.ext E1) F_type_b1 g_b1 F_identifier_b1) hZ (hw _ (List.mem_of_getElem? (i := 14) rfl)) (hw _ (List.mem_of_getElem? (i := 11) rfl)) (by decide) (by decide)) (g := (mkF m 62 #[.val (.int p0), .val (.long q1), .second, .val (.int p2), .val (.long q3), .second, .val (.int p4), .val (.ref ra), .val (.ref rb), .val (.int how), .val (.long idB), .second, .unset, .unset, .unset, .unset, .unset] [(.long q1), (.ref ra), (.ref b1), (.ref b1)])) rfl (by rw [hml]; rfl) (Steps.refl _) (a := b1) (argsL := [(.ref ra), (.long q1)]) (rest := [(.ref b1)]) (lenOf pd__Lcom_example_lessor_lessor_namespace_FileType_J_V rfl) rfl (by show 2 * 0 + _ ≤ _; exact Nat.le_of_eq rfl) (hb hby at_62) (fun _ _ => ⟨rfl, e1, (by decide : 1 + 0 ≤ _), (by decide : 2 + 0 ≤ _)⟩)
  dsimp only [Pt.U, Pt.locs, Pt.cells, Pt.slots] at X3 l3 y3 z3 st3 hQ3
  subst l3 y3 z3
  obtain ⟨rfl, N3q, K3, E3, Ff3, Fd3⟩ := hQ3
  have K4 : Keep h0 T3.heap [] := K2.trans K3 (allS (P := fun x => x ∈ [] ∨ h0.size ≤ x) (Or.inr sz_b1) all0)
  have N3 := Fr.app N0 N3q
  obtain ⟨T5, h5, X5, e5, E5, A5, D5, -, st5⟩ := newO X3 hx hZ hown (hw _ (List.mem_of_getElem? (i := 9) rfl)) (hw _ (List.mem_of_getElem? (i := 10) rfl)) (hw _ (List.mem_of_getElem? (i := 11) rfl)) rfl (g := (mkF m 67 #[.val (.int p0), .val (.long q1), .second, .val (.int p2), .val (.long q3), .second, .val (.int p4), .val (.ref ra), .val (.ref rb), .val (.int how), .val (.long idB), .second, .val (.ref b1), .unset, .unset, .unset, .unset] [])) rfl (hb hby at_67) (by decide) (by decide)
  obtain ⟨b5, g5⟩ : ∃ z, z = T3.heap.size := ⟨_, rfl⟩
  rw [← g5] at A5 D5 st5
  have g_b5 : n0 ≤ b5 := Nat.le_trans (Nat.le_trans Z0 K4.1) (Nat.le_of_eq g5.symm)
  have sz_b5 : h0.size ≤ b5 := Nat.le_trans K4.1 (Nat.le_of_eq g5.symm)
  have E_b5 := A5
  have F_type_b5 : Fld Z h5 b5 "com/example/lessor/lessor/namespace/Binding" "type" "Lcom/example/lessor/lessor/namespace/FileType;" .null := D5 (Or.inr (hw _ (List.mem_of_getElem? (i := 25) rfl))) (ty := (.object "com/example/lessor/lessor/namespace/FileType")) (by decide)
  have F_identifier_b5 : Fld Z h5 b5 "com/example/lessor/lessor/namespace/Binding" "identifier" "J" (.long (0 : Int64)) := D5 (Or.inr (hw _ (List.mem_of_getElem? (i := 27) rfl))) (ty := .long) (by decide)
  have K6 : Keep h0 h5 [] := K4.ext E5
  obtain ⟨_, _, ⟨T7, L7, k7, n7⟩, -, X7, ⟨Lc7, hQ7, l7, y7, z7⟩, st7⟩ := X5.specialBack hx (y := (⟨"com/example/lessor/lessor/namespace/Binding", "<init>", "(Lcom/example/lessor/lessor/namespace/FileType;J)V"⟩ : MethodName)) rfl hown (mvT hZ (hw _ (List.mem_of_getElem? (i := 12) rfl))) (mvT hZ (hw _ (List.mem_of_getElem? (i := 13) rfl))) (mvT hZ (hw _ (List.mem_of_getElem? (i := 14) rfl))) (by decide) (backOf (W := 1) (rmBinding l Z a0 hw [] b5 rb idB .null (.long (0 : Int64)) h5 n0 (Nat.le_trans Z0 K6.1) E_b5 (((E_rb.ext E1).keep K3).ext E5) F_type_b5 g_b5 F_identifier_b5) hZ (hw _ (List.mem_of_getElem? (i := 14) rfl)) (hw _ (List.mem_of_getElem? (i := 11) rfl)) (by decide) (by decide)) (g := (mkF m 75 #[.val (.int p0), .val (.long q1), .second, .val (.int p2), .val (.long q3), .second, .val (.int p4), .val (.ref ra), .val (.ref rb), .val (.int how), .val (.long idB), .second, .val (.ref b1), .unset, .unset, .unset, .unset] [(.long idB), (.ref rb), (.ref b5), (.ref b5)])) rfl (by rw [hml]; rfl) (Steps.refl _) (a := b5) (argsL := [(.ref rb), (.long idB)]) (rest := [(.ref b5)]) (lenOf pd__Lcom_example_lessor_lessor_namespace_FileType_J_V rfl) rfl (by show 2 * 0 + _ ≤ _; exact Nat.le_of_eq rfl) (hb hby at_75) (fun _ _ => ⟨rfl, e5, (by decide : 2 + 0 ≤ _), (by decide : 4 + 0 ≤ _)⟩)
  dsimp only [Pt.U, Pt.locs, Pt.cells, Pt.slots] at X7 l7 y7 z7 st7 hQ7
  subst l7 y7 z7
  obtain ⟨rfl, N7q, K7, E7, Ff7, Fd7⟩ := hQ7
  have K8 : Keep h0 T7.heap [] := K6.trans K7 (allS (P := fun x => x ∈ [] ∨ h0.size ≤ x) (Or.inr sz_b5) all0)
  have N7 := Fr.app N3 N7q
  have ne_b1_b5 : b1 ≠ b5 := Nat.ne_of_lt (Nat.lt_of_lt_of_le E3.lt (Nat.le_of_eq g5.symm))
  obtain ⟨cq9, kq9, q9a, q9b, q9c⟩ := isOf hZ rfl ((E3.ext E5).keep K7)
  obtain ⟨_, _, ⟨T9, L9, k9, n9⟩, -, X9, ⟨Lc9, hQ9, l9, y9, z9⟩, st9⟩ := X7.virtualBack hx (y := (⟨"com/example/lessor/lessor/namespace/Binding", "equals", "(Ljava/lang/Object;)Z"⟩ : MethodName)) (z := (⟨"com/example/lessor/lessor/namespace/Binding", "equals", "(Ljava/lang/Object;)Z"⟩ : MethodName)) hown (mvT hZ (hw _ (List.mem_of_getElem? (i := 28) rfl))) (mvT hZ (hw _ (List.mem_of_getElem? (i := 29) rfl))) (notFace_of_selects (args := #[]) (mvT hZ (hw _ (List.mem_of_getElem? (i := 31) rfl)))) (mvT hZ (hw _ (List.mem_of_getElem? (i := 31) rfl))) (mvT hZ (hw _ (List.mem_of_getElem? (i := 30) rfl))) (by decide) (backOf (W := 0) (rmEq_tf l Z a0 hw [] b1 b5 ra rb q1 idB T7.heap n0 (Nat.le_trans Z0 K8.1) E7 ((Ff3.ext E5).keep K7 (ninS ne_b1_b5 nin0)) Ff7 ha84 ((Fd3.ext E5).keep K7 (ninS ne_b1_b5 nin0)) Fd7 hc91) hZ (hw _ (List.mem_of_getElem? (i := 32) rfl)) (hw _ (List.mem_of_getElem? (i := 11) rfl)) (by decide) (by decide)) q9a q9c (g := (mkF m 105 #[.val (.int p0), .val (.long q1), .second, .val (.int p2), .val (.long q3), .second, .val (.int p4), .val (.ref ra), .val (.ref rb), .val (.int how), .val (.long idB), .second, .val (.ref b1), .val (.ref b5), .val (.int (1 : Int32)), .unset, .unset] [(.ref b5), (.ref b1)])) rfl (by rw [hml]; rfl) (Steps.refl _) (argsL := [(.ref b5)]) (rest := []) (lenOf pd__Ljava_lang_Object__Z rfl) rfl (by show 2 * 0 + _ ≤ _; exact Nat.le_of_eq rfl) (hb hby at_105) (fun _ _ => ⟨rfl, rfl, (by decide : 2 + 0 ≤ _), (by decide : 4 + 0 ≤ _)⟩)
  dsimp only [Pt.U, Pt.locs, Pt.cells, Pt.slots] at X9 l9 y9 z9 st9 hQ9
  subst l9 y9 z9
  obtain ⟨rfl, N9q, e9⟩ := hQ9
  have N9 := Fr.app N7 N9q
  obtain ⟨cq10, kq10, q10a, q10b, q10c⟩ := isOf hZ e9 E7
  obtain ⟨_, _, ⟨T10, L10, k10, n10⟩, -, X10, ⟨Lc10, hQ10, l10, y10, z10⟩, st10⟩ := X9.virtualBack hx (y := (⟨"com/example/lessor/lessor/namespace/Binding", "equals", "(Ljava/lang/Object;)Z"⟩ : MethodName)) (z := (⟨"com/example/lessor/lessor/namespace/Binding", "equals", "(Ljava/lang/Object;)Z"⟩ : MethodName)) hown (mvT hZ (hw _ (List.mem_of_getElem? (i := 28) rfl))) (mvT hZ (hw _ (List.mem_of_getElem? (i := 29) rfl))) (notFace_of_selects (args := #[]) (mvT hZ (hw _ (List.mem_of_getElem? (i := 31) rfl)))) (mvT hZ (hw _ (List.mem_of_getElem? (i := 31) rfl))) (mvT hZ (hw _ (List.mem_of_getElem? (i := 30) rfl))) (by decide) (backOf (W := 0) (rmEq_tf l Z a0 hw [] b5 b1 rb ra idB q1 T7.heap n0 (Nat.le_trans Z0 K8.1) ((E3.ext E5).keep K7) Ff7 ((Ff3.ext E5).keep K7 (ninS ne_b1_b5 nin0)) (Eq.symm ha84) Fd7 ((Fd3.ext E5).keep K7 (ninS ne_b1_b5 nin0)) (Eq.symm hc91)) hZ (hw _ (List.mem_of_getElem? (i := 32) rfl)) (hw _ (List.mem_of_getElem? (i := 11) rfl)) (by decide) (by decide)) q10a q10c (g := (mkF m 117 #[.val (.int p0), .val (.long q1), .second, .val (.int p2), .val (.long q3), .second, .val (.int p4), .val (.ref ra), .val (.ref rb), .val (.int how), .val (.long idB), .second, .val (.ref b1), .val (.ref b5), .val (.int (1 : Int32)), .unset, .unset] [(.ref b1), (.ref b5)])) rfl (by rw [hml]; rfl) (Steps.refl _) (argsL := [(.ref b1)]) (rest := []) (lenOf pd__Ljava_lang_Object__Z rfl) rfl (by show 2 * 0 + _ ≤ _; exact Nat.le_of_eq rfl) (hb hby at_117) (fun _ _ => ⟨rfl, e9, (by decide : 2 + 0 ≤ _), (by decide : 4 + 0 ≤ _)⟩)
  dsimp only [Pt.U, Pt.locs, Pt.cells, Pt.slots] at X10 l10 y10 z10 st10 hQ10
  subst l10 y10 z10
  obtain ⟨rfl, N10q, e10⟩ := hQ10
  have N10 := Fr.app N9 N10q
  obtain ⟨cq11, kq11, q11a, q11b, q11c⟩ := isOf hZ e10 ((E3.ext E5).keep K7)
  obtain ⟨_, _, ⟨T11, L11, k11, n11⟩, -, X11, ⟨Lc11, hQ11, l11, y11, z11⟩, st11⟩ := X10.virtualBack hx (y := (⟨"com/example/lessor/lessor/namespace/Binding", "equals", "(Ljava/lang/Object;)Z"⟩ : MethodName)) (z := (⟨"com/example/lessor/lessor/namespace/Binding", "equals", "(Ljava/lang/Object;)Z"⟩ : MethodName)) hown (mvT hZ (hw _ (List.mem_of_getElem? (i := 28) rfl))) (mvT hZ (hw _ (List.mem_of_getElem? (i := 29) rfl))) (notFace_of_selects (args := #[]) (mvT hZ (hw _ (List.mem_of_getElem? (i := 31) rfl)))) (mvT hZ (hw _ (List.mem_of_getElem? (i := 31) rfl))) (mvT hZ (hw _ (List.mem_of_getElem? (i := 30) rfl))) (by decide) (backOf (W := 0) (rmEq_null l Z a0 hw [] b1 T7.heap n0 (Nat.le_trans Z0 K8.1)) hZ (hw _ (List.mem_of_getElem? (i := 32) rfl)) (hw _ (List.mem_of_getElem? (i := 11) rfl)) (by decide) (by decide)) q11a q11c (g := (mkF m 155 #[.val (.int p0), .val (.long q1), .second, .val (.int p2), .val (.long q3), .second, .val (.int p4), .val (.ref ra), .val (.ref rb), .val (.int how), .val (.long idB), .second, .val (.ref b1), .val (.ref b5), .val (.int (1 : Int32)), .val (.int (1 : Int32)), .val (.int (((p4.toUInt32 >>> ((8 : Int32) &&& 31).toUInt32).toInt32) &&& (3 : Int32)))] [.null, (.ref b1)])) rfl (by rw [hml]; rfl) (Steps.refl _) (argsL := [.null]) (rest := []) (lenOf pd__Ljava_lang_Object__Z rfl) rfl (by show 2 * 0 + _ ≤ _; exact Nat.le_of_eq rfl) (hb hby at_155) (fun _ _ => ⟨rfl, e10, (by decide : 2 + 0 ≤ _), (by decide : 4 + 0 ≤ _)⟩)
  dsimp only [Pt.U, Pt.locs, Pt.cells, Pt.slots] at X11 l11 y11 z11 st11 hQ11
  subst l11 y11 z11
  obtain ⟨rfl, N11q, e11⟩ := hQ11
  have N11 := Fr.app N10 N11q
  obtain ⟨fs, hr, hrun, hended, hW, hsame⟩ := X11.leave (v := some (.int (1 : Int32))) (fun h => by rw [hret] at h; cases h)
  refine ⟨_, _, ?_, hrun, hended, _, _, rfl, ⟨rfl, N11⟩, ⟨_, rfl⟩, hW, hsame.mono (by decide) (by decide)⟩
  show Steps p.tables e below (s₁.setTop (mkF m 55 #[.val (.int p0), .val (.long q1), .second, .val (.int p2), .val (.long q3), .second, .val (.int p4), .val (.ref ra), .val (.ref rb), .val (.int how), .val (.long idB), .second, .unset, .unset, .unset, .unset, .unset] [])) _
  refine st1 _ ?_
  show Steps p.tables e below (T1.setTop (mkF m 58 #[.val (.int p0), .val (.long q1), .second, .val (.int p2), .val (.long q3), .second, .val (.int p4), .val (.ref ra), .val (.ref rb), .val (.int how), .val (.long idB), .second, .unset, .unset, .unset, .unset, .unset] [(.ref b1)])) _
  refine XS.dup X1.here hx rfl (hb hby at_58) rfl rfl ?_
  show Steps p.tables e below (T1.setTop (mkF m 59 #[.val (.int p0), .val (.long q1), .second, .val (.int p2), .val (.long q3), .second, .val (.int p4), .val (.ref ra), .val (.ref rb), .val (.int how), .val (.long idB), .second, .unset, .unset, .unset, .unset, .unset] [(.ref b1), (.ref b1)])) _
  refine XS.aload X1.here hx rfl (hb hby at_59) rfl rfl ?_
  show Steps p.tables e below (T1.setTop (mkF m 61 #[.val (.int p0), .val (.long q1), .second, .val (.int p2), .val (.long q3), .second, .val (.int p4), .val (.ref ra), .val (.ref rb), .val (.int how), .val (.long idB), .second, .unset, .unset, .unset, .unset, .unset] [(.ref ra), (.ref b1), (.ref b1)])) _
  refine XS.lloadN X1.here hx rfl (hb hby at_61) rfl ?_
  show Steps p.tables e below (T1.setTop (mkF m 62 #[.val (.int p0), .val (.long q1), .second, .val (.int p2), .val (.long q3), .second, .val (.int p4), .val (.ref ra), .val (.ref rb), .val (.int how), .val (.long idB), .second, .unset, .unset, .unset, .unset, .unset] [(.long q1), (.ref ra), (.ref b1), (.ref b1)])) _
  refine st3.trans ?_
  show Steps p.tables e below (T3.setTop (mkF m 65 #[.val (.int p0), .val (.long q1), .second, .val (.int p2), .val (.long q3), .second, .val (.int p4), .val (.ref ra), .val (.ref rb), .val (.int how), .val (.long idB), .second, .unset, .unset, .unset, .unset, .unset] [(.ref b1)])) _
  refine XS.astore X3.here hx rfl (hb hby at_65) rfl rfl (l' := #[.val (.int p0), .val (.long q1), .second, .val (.int p2), .val (.long q3), .second, .val (.int p4), .val (.ref ra), .val (.ref rb), .val (.int how), .val (.long idB), .second, .val (.ref b1), .unset, .unset, .unset, .unset]) rfl ?_
  show Steps p.tables e below (T3.setTop (mkF m 67 #[.val (.int p0), .val (.long q1), .second, .val (.int p2), .val (.long q3), .second, .val (.int p4), .val (.ref ra), .val (.ref rb), .val (.int how), .val (.long idB), .second, .val (.ref b1), .unset, .unset, .unset, .unset] [])) _
  refine st5 _ ?_
  show Steps p.tables e below (T5.setTop (mkF m 70 #[.val (.int p0), .val (.long q1), .second, .val (.int p2), .val (.long q3), .second, .val (.int p4), .val (.ref ra), .val (.ref rb), .val (.int how), .val (.long idB), .second, .val (.ref b1), .unset, .unset, .unset, .unset] [(.ref b5)])) _
  refine XS.dup X5.here hx rfl (hb hby at_70) rfl rfl ?_
  show Steps p.tables e below (T5.setTop (mkF m 71 #[.val (.int p0), .val (.long q1), .second, .val (.int p2), .val (.long q3), .second, .val (.int p4), .val (.ref ra), .val (.ref rb), .val (.int how), .val (.long idB), .second, .val (.ref b1), .unset, .unset, .unset, .unset] [(.ref b5), (.ref b5)])) _
  refine XS.aload X5.here hx rfl (hb hby at_71) rfl rfl ?_
  show Steps p.tables e below (T5.setTop (mkF m 73 #[.val (.int p0), .val (.long q1), .second, .val (.int p2), .val (.long q3), .second, .val (.int p4), .val (.ref ra), .val (.ref rb), .val (.int how), .val (.long idB), .second, .val (.ref b1), .unset, .unset, .unset, .unset] [(.ref rb), (.ref b5), (.ref b5)])) _
  refine XS.lload X5.here hx rfl (hb hby at_73) rfl ?_
  show Steps p.tables e below (T5.setTop (mkF m 75 #[.val (.int p0), .val (.long q1), .second, .val (.int p2), .val (.long q3), .second, .val (.int p4), .val (.ref ra), .val (.ref rb), .val (.int how), .val (.long idB), .second, .val (.ref b1), .unset, .unset, .unset, .unset] [(.long idB), (.ref rb), (.ref b5), (.ref b5)])) _
  refine st7.trans ?_
  show Steps p.tables e below (T7.setTop (mkF m 78 #[.val (.int p0), .val (.long q1), .second, .val (.int p2), .val (.long q3), .second, .val (.int p4), .val (.ref ra), .val (.ref rb), .val (.int how), .val (.long idB), .second, .val (.ref b1), .unset, .unset, .unset, .unset] [(.ref b5)])) _
  refine XS.astore X7.here hx rfl (hb hby at_78) rfl rfl (l' := #[.val (.int p0), .val (.long q1), .second, .val (.int p2), .val (.long q3), .second, .val (.int p4), .val (.ref ra), .val (.ref rb), .val (.int how), .val (.long idB), .second, .val (.ref b1), .val (.ref b5), .unset, .unset, .unset]) rfl ?_
  show Steps p.tables e below (T7.setTop (mkF m 80 #[.val (.int p0), .val (.long q1), .second, .val (.int p2), .val (.long q3), .second, .val (.int p4), .val (.ref ra), .val (.ref rb), .val (.int how), .val (.long idB), .second, .val (.ref b1), .val (.ref b5), .unset, .unset, .unset] [])) _
  refine XS.aload X7.here hx rfl (hb hby at_80) rfl rfl ?_
  show Steps p.tables e below (T7.setTop (mkF m 82 #[.val (.int p0), .val (.long q1), .second, .val (.int p2), .val (.long q3), .second, .val (.int p4), .val (.ref ra), .val (.ref rb), .val (.int how), .val (.long idB), .second, .val (.ref b1), .val (.ref b5), .unset, .unset, .unset] [(.ref ra)])) _
  refine XS.aload X7.here hx rfl (hb hby at_82) rfl rfl ?_
  show Steps p.tables e below (T7.setTop (mkF m 84 #[.val (.int p0), .val (.long q1), .second, .val (.int p2), .val (.long q3), .second, .val (.int p4), .val (.ref ra), .val (.ref rb), .val (.int how), .val (.long idB), .second, .val (.ref b1), .val (.ref b5), .unset, .unset, .unset] [(.ref rb), (.ref ra)])) _
  refine Jvm.RoadKit.acmp (g := (mkF m 84 #[.val (.int p0), .val (.long q1), .second, .val (.int p2), .val (.long q3), .second, .val (.int p4), .val (.ref ra), .val (.ref rb), .val (.int how), .val (.long idB), .second, .val (.ref b1), .val (.ref b5), .unset, .unset, .unset] [(.ref rb), (.ref ra)])) X7 hx rfl rfl rfl (pc0 := 84) (pc' := 87) (same := true) rfl (hb hby at_84) rfl (decide_eq_true (congrArg Value.ref ha84)) (by decide) (by decide) ?_
  show Steps p.tables e below (T7.setTop (mkF m 87 #[.val (.int p0), .val (.long q1), .second, .val (.int p2), .val (.long q3), .second, .val (.int p4), .val (.ref ra), .val (.ref rb), .val (.int how), .val (.long idB), .second, .val (.ref b1), .val (.ref b5), .unset, .unset, .unset] [])) _
  refine XS.lloadN X7.here hx rfl (hb hby at_87) rfl ?_
  show Steps p.tables e below (T7.setTop (mkF m 88 #[.val (.int p0), .val (.long q1), .second, .val (.int p2), .val (.long q3), .second, .val (.int p4), .val (.ref ra), .val (.ref rb), .val (.int how), .val (.long idB), .second, .val (.ref b1), .val (.ref b5), .unset, .unset, .unset] [(.long q1)])) _
  refine XS.lload X7.here hx rfl (hb hby at_88) rfl ?_
  show Steps p.tables e below (T7.setTop (mkF m 90 #[.val (.int p0), .val (.long q1), .second, .val (.int p2), .val (.long q3), .second, .val (.int p4), .val (.ref ra), .val (.ref rb), .val (.int how), .val (.long idB), .second, .val (.ref b1), .val (.ref b5), .unset, .unset, .unset] [(.long idB), (.long q1)])) _
  refine XS.lcmp X7.here hx rfl (hb hby at_90) rfl ?_
  show Steps p.tables e below (T7.setTop (mkF m 91 #[.val (.int p0), .val (.long q1), .second, .val (.int p2), .val (.long q3), .second, .val (.int p4), .val (.ref ra), .val (.ref rb), .val (.int how), .val (.long idB), .second, .val (.ref b1), .val (.ref b5), .unset, .unset, .unset] [(.int (lcmpW q1 idB))])) _
  refine XS.ifNo X7.here hx rfl (hb hby at_91) rfl ((if0 _ _).trans (teq ((lw_eq q1 idB).mpr hc91)).2) ?_
  show Steps p.tables e below (T7.setTop (mkF m 94 #[.val (.int p0), .val (.long q1), .second, .val (.int p2), .val (.long q3), .second, .val (.int p4), .val (.ref ra), .val (.ref rb), .val (.int how), .val (.long idB), .second, .val (.ref b1), .val (.ref b5), .unset, .unset, .unset] [])) _
  refine XS.iconst X7.here hx rfl (hb hby at_94) ?_
  show Steps p.tables e below (T7.setTop (mkF m 95 #[.val (.int p0), .val (.long q1), .second, .val (.int p2), .val (.long q3), .second, .val (.int p4), .val (.ref ra), .val (.ref rb), .val (.int how), .val (.long idB), .second, .val (.ref b1), .val (.ref b5), .unset, .unset, .unset] [(.int (1 : Int32))])) _
  refine XS.goto X7.here hx rfl (pc0 := 95) (pc' := 99) rfl (hb hby at_95) (by decide) (by decide) ?_
  show Steps p.tables e below (T7.setTop (mkF m 99 #[.val (.int p0), .val (.long q1), .second, .val (.int p2), .val (.long q3), .second, .val (.int p4), .val (.ref ra), .val (.ref rb), .val (.int how), .val (.long idB), .second, .val (.ref b1), .val (.ref b5), .unset, .unset, .unset] [(.int (1 : Int32))])) _
  refine XS.istore X7.here hx rfl (hb hby at_99) rfl (l' := #[.val (.int p0), .val (.long q1), .second, .val (.int p2), .val (.long q3), .second, .val (.int p4), .val (.ref ra), .val (.ref rb), .val (.int how), .val (.long idB), .second, .val (.ref b1), .val (.ref b5), .val (.int (1 : Int32)), .unset, .unset]) rfl ?_
  show Steps p.tables e below (T7.setTop (mkF m 101 #[.val (.int p0), .val (.long q1), .second, .val (.int p2), .val (.long q3), .second, .val (.int p4), .val (.ref ra), .val (.ref rb), .val (.int how), .val (.long idB), .second, .val (.ref b1), .val (.ref b5), .val (.int (1 : Int32)), .unset, .unset] [])) _
  refine XS.aload X7.here hx rfl (hb hby at_101) rfl rfl ?_
  show Steps p.tables e below (T7.setTop (mkF m 103 #[.val (.int p0), .val (.long q1), .second, .val (.int p2), .val (.long q3), .second, .val (.int p4), .val (.ref ra), .val (.ref rb), .val (.int how), .val (.long idB), .second, .val (.ref b1), .val (.ref b5), .val (.int (1 : Int32)), .unset, .unset] [(.ref b1)])) _
  refine XS.aload X7.here hx rfl (hb hby at_103) rfl rfl ?_
  show Steps p.tables e below (T7.setTop (mkF m 105 #[.val (.int p0), .val (.long q1), .second, .val (.int p2), .val (.long q3), .second, .val (.int p4), .val (.ref ra), .val (.ref rb), .val (.int how), .val (.long idB), .second, .val (.ref b1), .val (.ref b5), .val (.int (1 : Int32)), .unset, .unset] [(.ref b5), (.ref b1)])) _
  refine st9.trans ?_
  show Steps p.tables e below (T9.setTop (mkF m 108 #[.val (.int p0), .val (.long q1), .second, .val (.int p2), .val (.long q3), .second, .val (.int p4), .val (.ref ra), .val (.ref rb), .val (.int how), .val (.long idB), .second, .val (.ref b1), .val (.ref b5), .val (.int (1 : Int32)), .unset, .unset] [(.int (1 : Int32))])) _
  refine XS.iload X9.here hx rfl (hb hby at_108) rfl ?_
  show Steps p.tables e below (T9.setTop (mkF m 110 #[.val (.int p0), .val (.long q1), .second, .val (.int p2), .val (.long q3), .second, .val (.int p4), .val (.ref ra), .val (.ref rb), .val (.int how), .val (.long idB), .second, .val (.ref b1), .val (.ref b5), .val (.int (1 : Int32)), .unset, .unset] [(.int (1 : Int32)), (.int (1 : Int32))])) _
  refine XS.icmpNo X9.here hx rfl (hb hby at_110) rfl (teq (by decide)).2 ?_
  show Steps p.tables e below (T9.setTop (mkF m 113 #[.val (.int p0), .val (.long q1), .second, .val (.int p2), .val (.long q3), .second, .val (.int p4), .val (.ref ra), .val (.ref rb), .val (.int how), .val (.long idB), .second, .val (.ref b1), .val (.ref b5), .val (.int (1 : Int32)), .unset, .unset] [])) _
  refine XS.aload X9.here hx rfl (hb hby at_113) rfl rfl ?_
  show Steps p.tables e below (T9.setTop (mkF m 115 #[.val (.int p0), .val (.long q1), .second, .val (.int p2), .val (.long q3), .second, .val (.int p4), .val (.ref ra), .val (.ref rb), .val (.int how), .val (.long idB), .second, .val (.ref b1), .val (.ref b5), .val (.int (1 : Int32)), .unset, .unset] [(.ref b5)])) _
  refine XS.aload X9.here hx rfl (hb hby at_115) rfl rfl ?_
  show Steps p.tables e below (T9.setTop (mkF m 117 #[.val (.int p0), .val (.long q1), .second, .val (.int p2), .val (.long q3), .second, .val (.int p4), .val (.ref ra), .val (.ref rb), .val (.int how), .val (.long idB), .second, .val (.ref b1), .val (.ref b5), .val (.int (1 : Int32)), .unset, .unset] [(.ref b1), (.ref b5)])) _
  refine st10.trans ?_
  show Steps p.tables e below (T10.setTop (mkF m 120 #[.val (.int p0), .val (.long q1), .second, .val (.int p2), .val (.long q3), .second, .val (.int p4), .val (.ref ra), .val (.ref rb), .val (.int how), .val (.long idB), .second, .val (.ref b1), .val (.ref b5), .val (.int (1 : Int32)), .unset, .unset] [(.int (1 : Int32))])) _
  refine XS.iload X10.here hx rfl (hb hby at_120) rfl ?_
  show Steps p.tables e below (T10.setTop (mkF m 122 #[.val (.int p0), .val (.long q1), .second, .val (.int p2), .val (.long q3), .second, .val (.int p4), .val (.ref ra), .val (.ref rb), .val (.int how), .val (.long idB), .second, .val (.ref b1), .val (.ref b5), .val (.int (1 : Int32)), .unset, .unset] [(.int (1 : Int32)), (.int (1 : Int32))])) _
  refine XS.icmpNo X10.here hx rfl (hb hby at_122) rfl (teq (by decide)).2 ?_
  show Steps p.tables e below (T10.setTop (mkF m 125 #[.val (.int p0), .val (.long q1), .second, .val (.int p2), .val (.long q3), .second, .val (.int p4), .val (.ref ra), .val (.ref rb), .val (.int how), .val (.long idB), .second, .val (.ref b1), .val (.ref b5), .val (.int (1 : Int32)), .unset, .unset] [])) _
  refine XS.iconst X10.here hx rfl (hb hby at_125) ?_
  show Steps p.tables e below (T10.setTop (mkF m 126 #[.val (.int p0), .val (.long q1), .second, .val (.int p2), .val (.long q3), .second, .val (.int p4), .val (.ref ra), .val (.ref rb), .val (.int how), .val (.long idB), .second, .val (.ref b1), .val (.ref b5), .val (.int (1 : Int32)), .unset, .unset] [(.int (1 : Int32))])) _
  refine XS.goto X10.here hx rfl (pc0 := 126) (pc' := 130) rfl (hb hby at_126) (by decide) (by decide) ?_
  show Steps p.tables e below (T10.setTop (mkF m 130 #[.val (.int p0), .val (.long q1), .second, .val (.int p2), .val (.long q3), .second, .val (.int p4), .val (.ref ra), .val (.ref rb), .val (.int how), .val (.long idB), .second, .val (.ref b1), .val (.ref b5), .val (.int (1 : Int32)), .unset, .unset] [(.int (1 : Int32))])) _
  refine XS.istore X10.here hx rfl (hb hby at_130) rfl (l' := #[.val (.int p0), .val (.long q1), .second, .val (.int p2), .val (.long q3), .second, .val (.int p4), .val (.ref ra), .val (.ref rb), .val (.int how), .val (.long idB), .second, .val (.ref b1), .val (.ref b5), .val (.int (1 : Int32)), .val (.int (1 : Int32)), .unset]) rfl ?_
  show Steps p.tables e below (T10.setTop (mkF m 132 #[.val (.int p0), .val (.long q1), .second, .val (.int p2), .val (.long q3), .second, .val (.int p4), .val (.ref ra), .val (.ref rb), .val (.int how), .val (.long idB), .second, .val (.ref b1), .val (.ref b5), .val (.int (1 : Int32)), .val (.int (1 : Int32)), .unset] [])) _
  refine XS.iload X10.here hx rfl (hb hby at_132) rfl ?_
  show Steps p.tables e below (T10.setTop (mkF m 134 #[.val (.int p0), .val (.long q1), .second, .val (.int p2), .val (.long q3), .second, .val (.int p4), .val (.ref ra), .val (.ref rb), .val (.int how), .val (.long idB), .second, .val (.ref b1), .val (.ref b5), .val (.int (1 : Int32)), .val (.int (1 : Int32)), .unset] [(.int p4)])) _
  refine XS.bipush X10.here hx rfl (hb hby at_134) ?_
  show Steps p.tables e below (T10.setTop (mkF m 136 #[.val (.int p0), .val (.long q1), .second, .val (.int p2), .val (.long q3), .second, .val (.int p4), .val (.ref ra), .val (.ref rb), .val (.int how), .val (.long idB), .second, .val (.ref b1), .val (.ref b5), .val (.int (1 : Int32)), .val (.int (1 : Int32)), .unset] [(.int (8 : Int32)), (.int p4)])) _
  refine XS.iushr X10.here hx rfl (hb hby at_136) rfl ?_
  show Steps p.tables e below (T10.setTop (mkF m 137 #[.val (.int p0), .val (.long q1), .second, .val (.int p2), .val (.long q3), .second, .val (.int p4), .val (.ref ra), .val (.ref rb), .val (.int how), .val (.long idB), .second, .val (.ref b1), .val (.ref b5), .val (.int (1 : Int32)), .val (.int (1 : Int32)), .unset] [(.int ((p4.toUInt32 >>> ((8 : Int32) &&& 31).toUInt32).toInt32))])) _
  refine XS.iconst X10.here hx rfl (hb hby at_137) ?_
  show Steps p.tables e below (T10.setTop (mkF m 138 #[.val (.int p0), .val (.long q1), .second, .val (.int p2), .val (.long q3), .second, .val (.int p4), .val (.ref ra), .val (.ref rb), .val (.int how), .val (.long idB), .second, .val (.ref b1), .val (.ref b5), .val (.int (1 : Int32)), .val (.int (1 : Int32)), .unset] [(.int (3 : Int32)), (.int ((p4.toUInt32 >>> ((8 : Int32) &&& 31).toUInt32).toInt32))])) _
  refine XS.iand X10.here hx rfl (hb hby at_138) rfl ?_
  show Steps p.tables e below (T10.setTop (mkF m 139 #[.val (.int p0), .val (.long q1), .second, .val (.int p2), .val (.long q3), .second, .val (.int p4), .val (.ref ra), .val (.ref rb), .val (.int how), .val (.long idB), .second, .val (.ref b1), .val (.ref b5), .val (.int (1 : Int32)), .val (.int (1 : Int32)), .unset] [(.int (((p4.toUInt32 >>> ((8 : Int32) &&& 31).toUInt32).toInt32) &&& (3 : Int32)))])) _
  refine XS.istore X10.here hx rfl (hb hby at_139) rfl (l' := #[.val (.int p0), .val (.long q1), .second, .val (.int p2), .val (.long q3), .second, .val (.int p4), .val (.ref ra), .val (.ref rb), .val (.int how), .val (.long idB), .second, .val (.ref b1), .val (.ref b5), .val (.int (1 : Int32)), .val (.int (1 : Int32)), .val (.int (((p4.toUInt32 >>> ((8 : Int32) &&& 31).toUInt32).toInt32) &&& (3 : Int32)))]) rfl ?_
  show Steps p.tables e below (T10.setTop (mkF m 141 #[.val (.int p0), .val (.long q1), .second, .val (.int p2), .val (.long q3), .second, .val (.int p4), .val (.ref ra), .val (.ref rb), .val (.int how), .val (.long idB), .second, .val (.ref b1), .val (.ref b5), .val (.int (1 : Int32)), .val (.int (1 : Int32)), .val (.int (((p4.toUInt32 >>> ((8 : Int32) &&& 31).toUInt32).toInt32) &&& (3 : Int32)))] [])) _
  refine XS.iload X10.here hx rfl (hb hby at_141) rfl ?_
  show Steps p.tables e below (T10.setTop (mkF m 143 #[.val (.int p0), .val (.long q1), .second, .val (.int p2), .val (.long q3), .second, .val (.int p4), .val (.ref ra), .val (.ref rb), .val (.int how), .val (.long idB), .second, .val (.ref b1), .val (.ref b5), .val (.int (1 : Int32)), .val (.int (1 : Int32)), .val (.int (((p4.toUInt32 >>> ((8 : Int32) &&& 31).toUInt32).toInt32) &&& (3 : Int32)))] [(.int (((p4.toUInt32 >>> ((8 : Int32) &&& 31).toUInt32).toInt32) &&& (3 : Int32)))])) _
  refine XS.iconst X10.here hx rfl (hb hby at_143) ?_
  show Steps p.tables e below (T10.setTop (mkF m 144 #[.val (.int p0), .val (.long q1), .second, .val (.int p2), .val (.long q3), .second, .val (.int p4), .val (.ref ra), .val (.ref rb), .val (.int how), .val (.long idB), .second, .val (.ref b1), .val (.ref b5), .val (.int (1 : Int32)), .val (.int (1 : Int32)), .val (.int (((p4.toUInt32 >>> ((8 : Int32) &&& 31).toUInt32).toInt32) &&& (3 : Int32)))] [(.int (1 : Int32)), (.int (((p4.toUInt32 >>> ((8 : Int32) &&& 31).toUInt32).toInt32) &&& (3 : Int32)))])) _
  refine XS.icmpNo X10.here hx rfl (hb hby at_144) rfl (teq hc144).2 ?_
  show Steps p.tables e below (T10.setTop (mkF m 147 #[.val (.int p0), .val (.long q1), .second, .val (.int p2), .val (.long q3), .second, .val (.int p4), .val (.ref ra), .val (.ref rb), .val (.int how), .val (.long idB), .second, .val (.ref b1), .val (.ref b5), .val (.int (1 : Int32)), .val (.int (1 : Int32)), .val (.int (((p4.toUInt32 >>> ((8 : Int32) &&& 31).toUInt32).toInt32) &&& (3 : Int32)))] [])) _
  refine XS.iload X10.here hx rfl (hb hby at_147) rfl ?_
  show Steps p.tables e below (T10.setTop (mkF m 149 #[.val (.int p0), .val (.long q1), .second, .val (.int p2), .val (.long q3), .second, .val (.int p4), .val (.ref ra), .val (.ref rb), .val (.int how), .val (.long idB), .second, .val (.ref b1), .val (.ref b5), .val (.int (1 : Int32)), .val (.int (1 : Int32)), .val (.int (((p4.toUInt32 >>> ((8 : Int32) &&& 31).toUInt32).toInt32) &&& (3 : Int32)))] [(.int (1 : Int32))])) _
  refine XS.ifNo X10.here hx rfl (hb hby at_149) rfl ((if0 _ _).trans (feq (by decide)).1) ?_
  show Steps p.tables e below (T10.setTop (mkF m 152 #[.val (.int p0), .val (.long q1), .second, .val (.int p2), .val (.long q3), .second, .val (.int p4), .val (.ref ra), .val (.ref rb), .val (.int how), .val (.long idB), .second, .val (.ref b1), .val (.ref b5), .val (.int (1 : Int32)), .val (.int (1 : Int32)), .val (.int (((p4.toUInt32 >>> ((8 : Int32) &&& 31).toUInt32).toInt32) &&& (3 : Int32)))] [])) _
  refine XS.aload X10.here hx rfl (hb hby at_152) rfl rfl ?_
  show Steps p.tables e below (T10.setTop (mkF m 154 #[.val (.int p0), .val (.long q1), .second, .val (.int p2), .val (.long q3), .second, .val (.int p4), .val (.ref ra), .val (.ref rb), .val (.int how), .val (.long idB), .second, .val (.ref b1), .val (.ref b5), .val (.int (1 : Int32)), .val (.int (1 : Int32)), .val (.int (((p4.toUInt32 >>> ((8 : Int32) &&& 31).toUInt32).toInt32) &&& (3 : Int32)))] [(.ref b1)])) _
  refine XS.aconstNull X10.here hx rfl (hb hby at_154) ?_
  show Steps p.tables e below (T10.setTop (mkF m 155 #[.val (.int p0), .val (.long q1), .second, .val (.int p2), .val (.long q3), .second, .val (.int p4), .val (.ref ra), .val (.ref rb), .val (.int how), .val (.long idB), .second, .val (.ref b1), .val (.ref b5), .val (.int (1 : Int32)), .val (.int (1 : Int32)), .val (.int (((p4.toUInt32 >>> ((8 : Int32) &&& 31).toUInt32).toInt32) &&& (3 : Int32)))] [.null, (.ref b1)])) _
  refine st11.trans ?_
  show Steps p.tables e below (T11.setTop (mkF m 158 #[.val (.int p0), .val (.long q1), .second, .val (.int p2), .val (.long q3), .second, .val (.int p4), .val (.ref ra), .val (.ref rb), .val (.int how), .val (.long idB), .second, .val (.ref b1), .val (.ref b5), .val (.int (1 : Int32)), .val (.int (1 : Int32)), .val (.int (((p4.toUInt32 >>> ((8 : Int32) &&& 31).toUInt32).toInt32) &&& (3 : Int32)))] [(.int (0 : Int32))])) _
  refine XS.ifNo X11.here hx rfl (hb hby at_158) rfl ((if0 _ _).trans (teq (by decide)).2) ?_
  show Steps p.tables e below (T11.setTop (mkF m 161 #[.val (.int p0), .val (.long q1), .second, .val (.int p2), .val (.long q3), .second, .val (.int p4), .val (.ref ra), .val (.ref rb), .val (.int how), .val (.long idB), .second, .val (.ref b1), .val (.ref b5), .val (.int (1 : Int32)), .val (.int (1 : Int32)), .val (.int (((p4.toUInt32 >>> ((8 : Int32) &&& 31).toUInt32).toInt32) &&& (3 : Int32)))] [])) _
  refine XS.iconst X11.here hx rfl (hb hby at_161) ?_
  show Steps p.tables e below (T11.setTop (mkF m 162 #[.val (.int p0), .val (.long q1), .second, .val (.int p2), .val (.long q3), .second, .val (.int p4), .val (.ref ra), .val (.ref rb), .val (.int how), .val (.long idB), .second, .val (.ref b1), .val (.ref b5), .val (.int (1 : Int32)), .val (.int (1 : Int32)), .val (.int (((p4.toUInt32 >>> ((8 : Int32) &&& 31).toUInt32).toInt32) &&& (3 : Int32)))] [(.int (1 : Int32))])) _
  refine XS.goto X11.here hx rfl (pc0 := 162) (pc' := 166) rfl (hb hby at_162) (by decide) (by decide) ?_
  show Steps p.tables e below (T11.setTop (mkF m 166 #[.val (.int p0), .val (.long q1), .second, .val (.int p2), .val (.long q3), .second, .val (.int p4), .val (.ref ra), .val (.ref rb), .val (.int how), .val (.long idB), .second, .val (.ref b1), .val (.ref b5), .val (.int (1 : Int32)), .val (.int (1 : Int32)), .val (.int (((p4.toUInt32 >>> ((8 : Int32) &&& 31).toUInt32).toInt32) &&& (3 : Int32)))] [(.int (1 : Int32))])) _
  refine XS.istore X11.here hx rfl (hb hby at_166) rfl (l' := #[.val (.int p0), .val (.long q1), .second, .val (.int p2), .val (.long q3), .second, .val (.int p4), .val (.ref ra), .val (.ref rb), .val (.int how), .val (.long idB), .second, .val (.ref b1), .val (.ref b5), .val (.int (1 : Int32)), .val (.int (1 : Int32)), .val (.int (((p4.toUInt32 >>> ((8 : Int32) &&& 31).toUInt32).toInt32) &&& (3 : Int32)))]) rfl ?_
  show Steps p.tables e below (T11.setTop (mkF m 168 #[.val (.int p0), .val (.long q1), .second, .val (.int p2), .val (.long q3), .second, .val (.int p4), .val (.ref ra), .val (.ref rb), .val (.int how), .val (.long idB), .second, .val (.ref b1), .val (.ref b5), .val (.int (1 : Int32)), .val (.int (1 : Int32)), .val (.int (((p4.toUInt32 >>> ((8 : Int32) &&& 31).toUInt32).toInt32) &&& (3 : Int32)))] [])) _
  refine XS.goto X11.here hx rfl (pc0 := 168) (pc' := 232) rfl (hb hby at_168) (by decide) (by decide) ?_
  show Steps p.tables e below (T11.setTop (mkF m 232 #[.val (.int p0), .val (.long q1), .second, .val (.int p2), .val (.long q3), .second, .val (.int p4), .val (.ref ra), .val (.ref rb), .val (.int how), .val (.long idB), .second, .val (.ref b1), .val (.ref b5), .val (.int (1 : Int32)), .val (.int (1 : Int32)), .val (.int (((p4.toUInt32 >>> ((8 : Int32) &&& 31).toUInt32).toInt32) &&& (3 : Int32)))] [])) _
  refine XS.iload X11.here hx rfl (hb hby at_232) rfl ?_
  show Steps p.tables e below (T11.setTop (mkF m 234 #[.val (.int p0), .val (.long q1), .second, .val (.int p2), .val (.long q3), .second, .val (.int p4), .val (.ref ra), .val (.ref rb), .val (.int how), .val (.long idB), .second, .val (.ref b1), .val (.ref b5), .val (.int (1 : Int32)), .val (.int (1 : Int32)), .val (.int (((p4.toUInt32 >>> ((8 : Int32) &&& 31).toUInt32).toInt32) &&& (3 : Int32)))] [(.int (1 : Int32))])) _
  exact retN X11 hx (t := .boolean) hret (by simp) (hb hby at_234) hr
theorem pd__J_Ljava_lang_Long_ : parseMethodDescriptor "(J)Ljava/lang/Long;" = some ⟨[.long], some (.object "java/lang/Long")⟩ := by decide +kernel
set_option maxRecDepth 65536 in
set_option maxHeartbeats 40000000 in
theorem tail_ftf (l : Launch) (Z : State) (a0 : Array Value) (hw : ∀ d ∈ tables_1, d.before a0 Z = true) (p0 : Int32) (q1 : Int64) (p2 : Int32) (q3 : Int64) (p4 : Int32) (ra : Addr) (rb : Addr) (how : Int32) (idB : Int64) (ca : Addr) (cl : Cell) (h0 : Heap) (n0 : Nat) (Z0 : n0 ≤ h0.size) (E_ra : Exa Z h0 ra "com/example/lessor/lessor/namespace/FileType") (E_rb : Exa Z h0 rb "com/example/lessor/lessor/namespace/FileType") (ha84 : ¬ (ra = rb)) (hc144 : ¬ ((((p4.toUInt32 >>> ((8 : Int32) &&& 31).toUInt32).toInt32) &&& (3 : Int32)) = (1 : Int32))) (hc174 : (((p4.toUInt32 >>> ((8 : Int32) &&& 31).toUInt32).toInt32) &&& (3 : Int32)) = (2 : Int32)) (hC : Cache Z h0 ca cl)
    {p : Program} {e : Env} {s : State} {m : MethodId} {args : Array Value} {below : List Frame} {meth : Method} {c : Code} {s₁ : State} {locs : List Loc} (X0 : Stand p l e room_1 s m args below meth c s₁ locs 0 0) (N0 : Fr n0 locs) (hx : p.tables.exec = Jvm.exec) (hZ : Z.Warmed39 s.vm) (hby : c.code = code) (hml : c.maxLocals = 17) (hown : s.vm.findClass "com/example/lessor/lessor/namespace/BindingEqualsPinLaw" = some m.cls) (hret : meth.sig.returnType = ret) (hlk : meth.locks = false) (e0 : s₁.heap = h0) :
    ∃ s₂ o, Steps p.tables e below (s₁.setTop (mkF m 55 #[.val (.int p0), .val (.long q1), .second, .val (.int p2), .val (.long q3), .second, .val (.int p4), .val (.ref ra), .val (.ref rb), .val (.int how), .val (.long idB), .second, .unset, .unset, .unset, .unset, .unset] [])) s₂ ∧ s₂.status = .running ∧ Ended s₂ below o ∧ (∃ v L, o = .returned v ∧ (v = some (.int (1 : Int32)) ∧ Fr n0 L) ∧ FrameEnd s o s₂ L room_1.cells room_1.slots) := by
  obtain ⟨T1, h1, X1, e1, E1, A1, D1, -, st1⟩ := newO X0 hx hZ hown (hw _ (List.mem_of_getElem? (i := 9) rfl)) (hw _ (List.mem_of_getElem? (i := 10) rfl)) (hw _ (List.mem_of_getElem? (i := 11) rfl)) e0 (g := (mkF m 55 #[.val (.int p0), .val (.long q1), .second, .val (.int p2), .val (.long q3), .second, .val (.int p4), .val (.ref ra), .val (.ref rb), .val (.int how), .val (.long idB), .second, .unset, .unset, .unset, .unset, .unset] [])) rfl (hb hby at_55) (by decide) (by decide)
  obtain ⟨b1, g1⟩ : ∃ z, z = h0.size := ⟨_, rfl⟩
  rw [← g1] at A1 D1 st1
  have g_b1 : n0 ≤ b1 := Nat.le_trans Z0 (Nat.le_of_eq g1.symm)
  have sz_b1 : h0.size ≤ b1 := Nat.le_trans (Keep.refl h0 []).1 (Nat.le_of_eq g1.symm)
  have E_b1 := A1
  have F_type_b1 : Fld Z h1 b1 "com/example/lessor/lessor/namespace/Binding" "type" "Lcom/example/lessor/lessor/namespace/FileType;" .null := D1 (Or.inr (hw _ (List.mem_of_getElem? (i := 25) rfl))) (ty := (.object "com/example/lessor/lessor/namespace/FileType")) (by decide)
  have F_identifier_b1 : Fld Z h1 b1 "com/example/lessor/lessor/namespace/Binding" "identifier" "J" (.long (0 : Int64)) := D1 (Or.inr (hw _ (List.mem_of_getElem? (i := 27) rfl))) (ty := .long) (by decide)
  have K2 : Keep h0 h1 [] := (Keep.refl h0 []).ext E1
  obtain ⟨_, _, ⟨T3, L3, k3, n3⟩, -, X3, ⟨Lc3, hQ3, l3, y3, z3⟩, st3⟩ := X1.specialBack hx (y := (⟨"com/example/lessor/lessor/namespace/Binding", "<init>", "(Lcom/example/lessor/lessor/namespace/FileType;J)V"⟩ : MethodName)) rfl hown (mvT hZ (hw _ (List.mem_of_getElem? (i := 12) rfl))) (mvT hZ (hw _ (List.mem_of_getElem? (i := 13) rfl))) (mvT hZ (hw _ (List.mem_of_getElem? (i := 14) rfl))) (by decide) (backOf (W := 1) (rmBinding l Z a0 hw [] b1 ra q1 .null (.long (0 : Int64)) h1 n0 (Nat.le_trans Z0 K2.1) E_b1 (E_ra.ext E1) F_type_b1 g_b1 F_identifier_b1) hZ (hw _ (List.mem_of_getElem? (i := 14) rfl)) (hw _ (List.mem_of_getElem? (i := 11) rfl)) (by decide) (by decide)) (g := (mkF m 62 #[.val (.int p0), .val (.long q1), .second, .val (.int p2), .val (.long q3), .second, .val (.int p4), .val (.ref ra), .val (.ref rb), .val (.int how), .val (.long idB), .second, .unset, .unset, .unset, .unset, .unset] [(.long q1), (.ref ra), (.ref b1), (.ref b1)])) rfl (by rw [hml]; rfl) (Steps.refl _) (a := b1) (argsL := [(.ref ra), (.long q1)]) (rest := [(.ref b1)]) (lenOf pd__Lcom_example_lessor_lessor_namespace_FileType_J_V rfl) rfl (by show 2 * 0 + _ ≤ _; exact Nat.le_of_eq rfl) (hb hby at_62) (fun _ _ => ⟨rfl, e1, (by decide : 1 + 0 ≤ _), (by decide : 2 + 0 ≤ _)⟩)
  dsimp only [Pt.U, Pt.locs, Pt.cells, Pt.slots] at X3 l3 y3 z3 st3 hQ3
  subst l3 y3 z3
  obtain ⟨rfl, N3q, K3, E3, Ff3, Fd3⟩ := hQ3
  have K4 : Keep h0 T3.heap [] := K2.trans K3 (allS (P := fun x => x ∈ [] ∨ h0.size ≤ x) (Or.inr sz_b1) all0)
  have N3 := Fr.app N0 N3q
  obtain ⟨T5, h5, X5, e5, E5, A5, D5, -, st5⟩ := newO X3 hx hZ hown (hw _ (List.mem_of_getElem? (i := 9) rfl)) (hw _ (List.mem_of_getElem? (i := 10) rfl)) (hw _ (List.mem_of_getElem? (i := 11) rfl)) rfl (g := (mkF m 67 #[.val (.int p0), .val (.long q1), .second, .val (.int p2), .val (.long q3), .second, .val (.int p4), .val (.ref ra), .val (.ref rb), .val (.int how), .val (.long idB), .second, .val (.ref b1), .unset, .unset, .unset, .unset] [])) rfl (hb hby at_67) (by decide) (by decide)
  obtain ⟨b5, g5⟩ : ∃ z, z = T3.heap.size := ⟨_, rfl⟩
  rw [← g5] at A5 D5 st5
  have g_b5 : n0 ≤ b5 := Nat.le_trans (Nat.le_trans Z0 K4.1) (Nat.le_of_eq g5.symm)
  have sz_b5 : h0.size ≤ b5 := Nat.le_trans K4.1 (Nat.le_of_eq g5.symm)
  have E_b5 := A5
  have F_type_b5 : Fld Z h5 b5 "com/example/lessor/lessor/namespace/Binding" "type" "Lcom/example/lessor/lessor/namespace/FileType;" .null := D5 (Or.inr (hw _ (List.mem_of_getElem? (i := 25) rfl))) (ty := (.object "com/example/lessor/lessor/namespace/FileType")) (by decide)
  have F_identifier_b5 : Fld Z h5 b5 "com/example/lessor/lessor/namespace/Binding" "identifier" "J" (.long (0 : Int64)) := D5 (Or.inr (hw _ (List.mem_of_getElem? (i := 27) rfl))) (ty := .long) (by decide)
  have K6 : Keep h0 h5 [] := K4.ext E5
  obtain ⟨_, _, ⟨T7, L7, k7, n7⟩, -, X7, ⟨Lc7, hQ7, l7, y7, z7⟩, st7⟩ := X5.specialBack hx (y := (⟨"com/example/lessor/lessor/namespace/Binding", "<init>", "(Lcom/example/lessor/lessor/namespace/FileType;J)V"⟩ : MethodName)) rfl hown (mvT hZ (hw _ (List.mem_of_getElem? (i := 12) rfl))) (mvT hZ (hw _ (List.mem_of_getElem? (i := 13) rfl))) (mvT hZ (hw _ (List.mem_of_getElem? (i := 14) rfl))) (by decide) (backOf (W := 1) (rmBinding l Z a0 hw [] b5 rb idB .null (.long (0 : Int64)) h5 n0 (Nat.le_trans Z0 K6.1) E_b5 (((E_rb.ext E1).keep K3).ext E5) F_type_b5 g_b5 F_identifier_b5) hZ (hw _ (List.mem_of_getElem? (i := 14) rfl)) (hw _ (List.mem_of_getElem? (i := 11) rfl)) (by decide) (by decide)) (g := (mkF m 75 #[.val (.int p0), .val (.long q1), .second, .val (.int p2), .val (.long q3), .second, .val (.int p4), .val (.ref ra), .val (.ref rb), .val (.int how), .val (.long idB), .second, .val (.ref b1), .unset, .unset, .unset, .unset] [(.long idB), (.ref rb), (.ref b5), (.ref b5)])) rfl (by rw [hml]; rfl) (Steps.refl _) (a := b5) (argsL := [(.ref rb), (.long idB)]) (rest := [(.ref b5)]) (lenOf pd__Lcom_example_lessor_lessor_namespace_FileType_J_V rfl) rfl (by show 2 * 0 + _ ≤ _; exact Nat.le_of_eq rfl) (hb hby at_75) (fun _ _ => ⟨rfl, e5, (by decide : 2 + 0 ≤ _), (by decide : 4 + 0 ≤ _)⟩)
  dsimp only [Pt.U, Pt.locs, Pt.cells, Pt.slots] at X7 l7 y7 z7 st7 hQ7
  subst l7 y7 z7
  obtain ⟨rfl, N7q, K7, E7, Ff7, Fd7⟩ := hQ7
  have K8 : Keep h0 T7.heap [] := K6.trans K7 (allS (P := fun x => x ∈ [] ∨ h0.size ≤ x) (Or.inr sz_b5) all0)
  have N7 := Fr.app N3 N7q
  have ne_b1_b5 : b1 ≠ b5 := Nat.ne_of_lt (Nat.lt_of_lt_of_le E3.lt (Nat.le_of_eq g5.symm))
  obtain ⟨cq9, kq9, q9a, q9b, q9c⟩ := isOf hZ rfl ((E3.ext E5).keep K7)
  obtain ⟨_, _, ⟨T9, L9, k9, n9⟩, -, X9, ⟨Lc9, hQ9, l9, y9, z9⟩, st9⟩ := X7.virtualBack hx (y := (⟨"com/example/lessor/lessor/namespace/Binding", "equals", "(Ljava/lang/Object;)Z"⟩ : MethodName)) (z := (⟨"com/example/lessor/lessor/namespace/Binding", "equals", "(Ljava/lang/Object;)Z"⟩ : MethodName)) hown (mvT hZ (hw _ (List.mem_of_getElem? (i := 28) rfl))) (mvT hZ (hw _ (List.mem_of_getElem? (i := 29) rfl))) (notFace_of_selects (args := #[]) (mvT hZ (hw _ (List.mem_of_getElem? (i := 31) rfl)))) (mvT hZ (hw _ (List.mem_of_getElem? (i := 31) rfl))) (mvT hZ (hw _ (List.mem_of_getElem? (i := 30) rfl))) (by decide) (backOf (W := 0) (rmEq_f l Z a0 hw [] b1 b5 ra rb T7.heap n0 (Nat.le_trans Z0 K8.1) E7 ((Ff3.ext E5).keep K7 (ninS ne_b1_b5 nin0)) Ff7 ha84) hZ (hw _ (List.mem_of_getElem? (i := 32) rfl)) (hw _ (List.mem_of_getElem? (i := 11) rfl)) (by decide) (by decide)) q9a q9c (g := (mkF m 105 #[.val (.int p0), .val (.long q1), .second, .val (.int p2), .val (.long q3), .second, .val (.int p4), .val (.ref ra), .val (.ref rb), .val (.int how), .val (.long idB), .second, .val (.ref b1), .val (.ref b5), .val (.int (0 : Int32)), .unset, .unset] [(.ref b5), (.ref b1)])) rfl (by rw [hml]; rfl) (Steps.refl _) (argsL := [(.ref b5)]) (rest := []) (lenOf pd__Ljava_lang_Object__Z rfl) rfl (by show 2 * 0 + _ ≤ _; exact Nat.le_of_eq rfl) (hb hby at_105) (fun _ _ => ⟨rfl, rfl, (by decide : 2 + 0 ≤ _), (by decide : 4 + 0 ≤ _)⟩)
  dsimp only [Pt.U, Pt.locs, Pt.cells, Pt.slots] at X9 l9 y9 z9 st9 hQ9
  subst l9 y9 z9
  obtain ⟨rfl, N9q, e9⟩ := hQ9
  have N9 := Fr.app N7 N9q
  obtain ⟨cq10, kq10, q10a, q10b, q10c⟩ := isOf hZ e9 E7
  obtain ⟨_, _, ⟨T10, L10, k10, n10⟩, -, X10, ⟨Lc10, hQ10, l10, y10, z10⟩, st10⟩ := X9.virtualBack hx (y := (⟨"com/example/lessor/lessor/namespace/Binding", "equals", "(Ljava/lang/Object;)Z"⟩ : MethodName)) (z := (⟨"com/example/lessor/lessor/namespace/Binding", "equals", "(Ljava/lang/Object;)Z"⟩ : MethodName)) hown (mvT hZ (hw _ (List.mem_of_getElem? (i := 28) rfl))) (mvT hZ (hw _ (List.mem_of_getElem? (i := 29) rfl))) (notFace_of_selects (args := #[]) (mvT hZ (hw _ (List.mem_of_getElem? (i := 31) rfl)))) (mvT hZ (hw _ (List.mem_of_getElem? (i := 31) rfl))) (mvT hZ (hw _ (List.mem_of_getElem? (i := 30) rfl))) (by decide) (backOf (W := 0) (rmEq_f l Z a0 hw [] b5 b1 rb ra T7.heap n0 (Nat.le_trans Z0 K8.1) ((E3.ext E5).keep K7) Ff7 ((Ff3.ext E5).keep K7 (ninS ne_b1_b5 nin0)) (fun q => ha84 (Eq.symm q))) hZ (hw _ (List.mem_of_getElem? (i := 32) rfl)) (hw _ (List.mem_of_getElem? (i := 11) rfl)) (by decide) (by decide)) q10a q10c (g := (mkF m 117 #[.val (.int p0), .val (.long q1), .second, .val (.int p2), .val (.long q3), .second, .val (.int p4), .val (.ref ra), .val (.ref rb), .val (.int how), .val (.long idB), .second, .val (.ref b1), .val (.ref b5), .val (.int (0 : Int32)), .unset, .unset] [(.ref b1), (.ref b5)])) rfl (by rw [hml]; rfl) (Steps.refl _) (argsL := [(.ref b1)]) (rest := []) (lenOf pd__Ljava_lang_Object__Z rfl) rfl (by show 2 * 0 + _ ≤ _; exact Nat.le_of_eq rfl) (hb hby at_117) (fun _ _ => ⟨rfl, e9, (by decide : 2 + 0 ≤ _), (by decide : 4 + 0 ≤ _)⟩)
  dsimp only [Pt.U, Pt.locs, Pt.cells, Pt.slots] at X10 l10 y10 z10 st10 hQ10
  subst l10 y10 z10
  obtain ⟨rfl, N10q, e10⟩ := hQ10
  have N10 := Fr.app N9 N10q
  obtain ⟨_, _, ⟨T11, L11, k11, n11⟩, -, X11, ⟨Lc11, hQ11, l11, y11, z11⟩, st11⟩ := Jvm.LawKit.callS X10 hx (y := (⟨"java/lang/Long", "valueOf", "(J)Ljava/lang/Long;"⟩ : MethodName)) hown (mvT hZ (hw _ (List.mem_of_getElem? (i := 35) rfl))) (mvT hZ (hw _ (List.mem_of_getElem? (i := 36) rfl))) (mvT hZ (hw _ (List.mem_of_getElem? (i := 37) rfl))) (mvT hZ (hw _ (List.mem_of_getElem? (i := 38) rfl))) (by decide) (backOf (W := 1) (own_vo l Z a0 hw [] q1 ca cl T7.heap n0 (Nat.le_trans Z0 K8.1) (hC.keep K8)) hZ (hw _ (List.mem_of_getElem? (i := 38) rfl)) (hw _ (List.mem_of_getElem? (i := 37) rfl)) (by decide) (by decide)) (g := (mkF m 185 #[.val (.int p0), .val (.long q1), .second, .val (.int p2), .val (.long q3), .second, .val (.int p4), .val (.ref ra), .val (.ref rb), .val (.int how), .val (.long idB), .second, .val (.ref b1), .val (.ref b5), .val (.int (0 : Int32)), .val (.int (1 : Int32)), .val (.int (((p4.toUInt32 >>> ((8 : Int32) &&& 31).toUInt32).toInt32) &&& (3 : Int32)))] [(.long q1), (.ref b1)])) rfl (by rw [hml]; rfl) (argsL := [(.long q1)]) (rest := [(.ref b1)]) (lenOf pd__J_Ljava_lang_Long_ rfl) rfl (by show 2 * 0 + _ ≤ _; exact Nat.le_of_eq rfl) (hb hby at_185) (fun _ _ => ⟨rfl, e10, (by decide : 2 + 1 ≤ _), (by decide : 4 + 1 ≤ _)⟩)
  dsimp only [Pt.U, Pt.locs, Pt.cells, Pt.slots] at X11 l11 y11 z11 st11 hQ11
  subst l11 y11 z11
  obtain ⟨v11, rfl, N11q, K11, E11⟩ := hQ11
  have K12 : Keep h0 T11.heap [] := K8.trans K11 all0
  have N11 := Fr.app N10 N11q
  obtain ⟨cq13, kq13, q13a, q13b, q13c⟩ := isOf hZ rfl (((E3.ext E5).keep K7).keep K11)
  obtain ⟨_, _, ⟨T13, L13, k13, n13⟩, -, X13, ⟨Lc13, hQ13, l13, y13, z13⟩, st13⟩ := X11.virtualBack hx (y := (⟨"com/example/lessor/lessor/namespace/Binding", "equals", "(Ljava/lang/Object;)Z"⟩ : MethodName)) (z := (⟨"com/example/lessor/lessor/namespace/Binding", "equals", "(Ljava/lang/Object;)Z"⟩ : MethodName)) hown (mvT hZ (hw _ (List.mem_of_getElem? (i := 28) rfl))) (mvT hZ (hw _ (List.mem_of_getElem? (i := 29) rfl))) (notFace_of_selects (args := #[]) (mvT hZ (hw _ (List.mem_of_getElem? (i := 31) rfl)))) (mvT hZ (hw _ (List.mem_of_getElem? (i := 31) rfl))) (mvT hZ (hw _ (List.mem_of_getElem? (i := 30) rfl))) (by decide) (backOf (W := 0) (rmEq_long l Z a0 hw [] b1 v11 T11.heap n0 (Nat.le_trans Z0 K12.1) E11) hZ (hw _ (List.mem_of_getElem? (i := 32) rfl)) (hw _ (List.mem_of_getElem? (i := 11) rfl)) (by decide) (by decide)) q13a q13c (g := (mkF m 188 #[.val (.int p0), .val (.long q1), .second, .val (.int p2), .val (.long q3), .second, .val (.int p4), .val (.ref ra), .val (.ref rb), .val (.int how), .val (.long idB), .second, .val (.ref b1), .val (.ref b5), .val (.int (0 : Int32)), .val (.int (1 : Int32)), .val (.int (((p4.toUInt32 >>> ((8 : Int32) &&& 31).toUInt32).toInt32) &&& (3 : Int32)))] [(.ref v11), (.ref b1)])) rfl (by rw [hml]; rfl) (Steps.refl _) (argsL := [(.ref v11)]) (rest := []) (lenOf pd__Ljava_lang_Object__Z rfl) rfl (by show 2 * 0 + _ ≤ _; exact Nat.le_of_eq rfl) (hb hby at_188) (fun _ _ => ⟨rfl, rfl, (by decide : 3 + 0 ≤ _), (by decide : 5 + 0 ≤ _)⟩)
  dsimp only [Pt.U, Pt.locs, Pt.cells, Pt.slots] at X13 l13 y13 z13 st13 hQ13
  subst l13 y13 z13
  obtain ⟨rfl, N13q, e13⟩ := hQ13
  have N13 := Fr.app N11 N13q
  obtain ⟨fs, hr, hrun, hended, hW, hsame⟩ := X13.leave (v := some (.int (1 : Int32))) (fun h => by rw [hret] at h; cases h)
  refine ⟨_, _, ?_, hrun, hended, _, _, rfl, ⟨rfl, N13⟩, ⟨_, rfl⟩, hW, hsame.mono (by decide) (by decide)⟩
  show Steps p.tables e below (s₁.setTop (mkF m 55 #[.val (.int p0), .val (.long q1), .second, .val (.int p2), .val (.long q3), .second, .val (.int p4), .val (.ref ra), .val (.ref rb), .val (.int how), .val (.long idB), .second, .unset, .unset, .unset, .unset, .unset] [])) _
  refine st1 _ ?_
  show Steps p.tables e below (T1.setTop (mkF m 58 #[.val (.int p0), .val (.long q1), .second, .val (.int p2), .val (.long q3), .second, .val (.int p4), .val (.ref ra), .val (.ref rb), .val (.int how), .val (.long idB), .second, .unset, .unset, .unset, .unset, .unset] [(.ref b1)])) _
  refine XS.dup X1.here hx rfl (hb hby at_58) rfl rfl ?_
  show Steps p.tables e below (T1.setTop (mkF m 59 #[.val (.int p0), .val (.long q1), .second, .val (.int p2), .val (.long q3), .second, .val (.int p4), .val (.ref ra), .val (.ref rb), .val (.int how), .val (.long idB), .second, .unset, .unset, .unset, .unset, .unset] [(.ref b1), (.ref b1)])) _
  refine XS.aload X1.here hx rfl (hb hby at_59) rfl rfl ?_
  show Steps p.tables e below (T1.setTop (mkF m 61 #[.val (.int p0), .val (.long q1), .second, .val (.int p2), .val (.long q3), .second, .val (.int p4), .val (.ref ra), .val (.ref rb), .val (.int how), .val (.long idB), .second, .unset, .unset, .unset, .unset, .unset] [(.ref ra), (.ref b1), (.ref b1)])) _
  refine XS.lloadN X1.here hx rfl (hb hby at_61) rfl ?_
  show Steps p.tables e below (T1.setTop (mkF m 62 #[.val (.int p0), .val (.long q1), .second, .val (.int p2), .val (.long q3), .second, .val (.int p4), .val (.ref ra), .val (.ref rb), .val (.int how), .val (.long idB), .second, .unset, .unset, .unset, .unset, .unset] [(.long q1), (.ref ra), (.ref b1), (.ref b1)])) _
  refine st3.trans ?_
  show Steps p.tables e below (T3.setTop (mkF m 65 #[.val (.int p0), .val (.long q1), .second, .val (.int p2), .val (.long q3), .second, .val (.int p4), .val (.ref ra), .val (.ref rb), .val (.int how), .val (.long idB), .second, .unset, .unset, .unset, .unset, .unset] [(.ref b1)])) _
  refine XS.astore X3.here hx rfl (hb hby at_65) rfl rfl (l' := #[.val (.int p0), .val (.long q1), .second, .val (.int p2), .val (.long q3), .second, .val (.int p4), .val (.ref ra), .val (.ref rb), .val (.int how), .val (.long idB), .second, .val (.ref b1), .unset, .unset, .unset, .unset]) rfl ?_
  show Steps p.tables e below (T3.setTop (mkF m 67 #[.val (.int p0), .val (.long q1), .second, .val (.int p2), .val (.long q3), .second, .val (.int p4), .val (.ref ra), .val (.ref rb), .val (.int how), .val (.long idB), .second, .val (.ref b1), .unset, .unset, .unset, .unset] [])) _
  refine st5 _ ?_
  show Steps p.tables e below (T5.setTop (mkF m 70 #[.val (.int p0), .val (.long q1), .second, .val (.int p2), .val (.long q3), .second, .val (.int p4), .val (.ref ra), .val (.ref rb), .val (.int how), .val (.long idB), .second, .val (.ref b1), .unset, .unset, .unset, .unset] [(.ref b5)])) _
  refine XS.dup X5.here hx rfl (hb hby at_70) rfl rfl ?_
  show Steps p.tables e below (T5.setTop (mkF m 71 #[.val (.int p0), .val (.long q1), .second, .val (.int p2), .val (.long q3), .second, .val (.int p4), .val (.ref ra), .val (.ref rb), .val (.int how), .val (.long idB), .second, .val (.ref b1), .unset, .unset, .unset, .unset] [(.ref b5), (.ref b5)])) _
  refine XS.aload X5.here hx rfl (hb hby at_71) rfl rfl ?_
  show Steps p.tables e below (T5.setTop (mkF m 73 #[.val (.int p0), .val (.long q1), .second, .val (.int p2), .val (.long q3), .second, .val (.int p4), .val (.ref ra), .val (.ref rb), .val (.int how), .val (.long idB), .second, .val (.ref b1), .unset, .unset, .unset, .unset] [(.ref rb), (.ref b5), (.ref b5)])) _
  refine XS.lload X5.here hx rfl (hb hby at_73) rfl ?_
  show Steps p.tables e below (T5.setTop (mkF m 75 #[.val (.int p0), .val (.long q1), .second, .val (.int p2), .val (.long q3), .second, .val (.int p4), .val (.ref ra), .val (.ref rb), .val (.int how), .val (.long idB), .second, .val (.ref b1), .unset, .unset, .unset, .unset] [(.long idB), (.ref rb), (.ref b5), (.ref b5)])) _
  refine st7.trans ?_
  show Steps p.tables e below (T7.setTop (mkF m 78 #[.val (.int p0), .val (.long q1), .second, .val (.int p2), .val (.long q3), .second, .val (.int p4), .val (.ref ra), .val (.ref rb), .val (.int how), .val (.long idB), .second, .val (.ref b1), .unset, .unset, .unset, .unset] [(.ref b5)])) _
  refine XS.astore X7.here hx rfl (hb hby at_78) rfl rfl (l' := #[.val (.int p0), .val (.long q1), .second, .val (.int p2), .val (.long q3), .second, .val (.int p4), .val (.ref ra), .val (.ref rb), .val (.int how), .val (.long idB), .second, .val (.ref b1), .val (.ref b5), .unset, .unset, .unset]) rfl ?_
  show Steps p.tables e below (T7.setTop (mkF m 80 #[.val (.int p0), .val (.long q1), .second, .val (.int p2), .val (.long q3), .second, .val (.int p4), .val (.ref ra), .val (.ref rb), .val (.int how), .val (.long idB), .second, .val (.ref b1), .val (.ref b5), .unset, .unset, .unset] [])) _
  refine XS.aload X7.here hx rfl (hb hby at_80) rfl rfl ?_
  show Steps p.tables e below (T7.setTop (mkF m 82 #[.val (.int p0), .val (.long q1), .second, .val (.int p2), .val (.long q3), .second, .val (.int p4), .val (.ref ra), .val (.ref rb), .val (.int how), .val (.long idB), .second, .val (.ref b1), .val (.ref b5), .unset, .unset, .unset] [(.ref ra)])) _
  refine XS.aload X7.here hx rfl (hb hby at_82) rfl rfl ?_
  show Steps p.tables e below (T7.setTop (mkF m 84 #[.val (.int p0), .val (.long q1), .second, .val (.int p2), .val (.long q3), .second, .val (.int p4), .val (.ref ra), .val (.ref rb), .val (.int how), .val (.long idB), .second, .val (.ref b1), .val (.ref b5), .unset, .unset, .unset] [(.ref rb), (.ref ra)])) _
  refine Jvm.RoadKit.acmp (g := (mkF m 84 #[.val (.int p0), .val (.long q1), .second, .val (.int p2), .val (.long q3), .second, .val (.int p4), .val (.ref ra), .val (.ref rb), .val (.int how), .val (.long idB), .second, .val (.ref b1), .val (.ref b5), .unset, .unset, .unset] [(.ref rb), (.ref ra)])) X7 hx rfl rfl rfl (pc0 := 84) (pc' := 98) (same := false) rfl (hb hby at_84) rfl (decide_eq_false fun q => ha84 (Value.ref.inj q)) (by decide) (by decide) ?_
  show Steps p.tables e below (T7.setTop (mkF m 98 #[.val (.int p0), .val (.long q1), .second, .val (.int p2), .val (.long q3), .second, .val (.int p4), .val (.ref ra), .val (.ref rb), .val (.int how), .val (.long idB), .second, .val (.ref b1), .val (.ref b5), .unset, .unset, .unset] [])) _
  refine XS.iconst X7.here hx rfl (hb hby at_98) ?_
  show Steps p.tables e below (T7.setTop (mkF m 99 #[.val (.int p0), .val (.long q1), .second, .val (.int p2), .val (.long q3), .second, .val (.int p4), .val (.ref ra), .val (.ref rb), .val (.int how), .val (.long idB), .second, .val (.ref b1), .val (.ref b5), .unset, .unset, .unset] [(.int (0 : Int32))])) _
  refine XS.istore X7.here hx rfl (hb hby at_99) rfl (l' := #[.val (.int p0), .val (.long q1), .second, .val (.int p2), .val (.long q3), .second, .val (.int p4), .val (.ref ra), .val (.ref rb), .val (.int how), .val (.long idB), .second, .val (.ref b1), .val (.ref b5), .val (.int (0 : Int32)), .unset, .unset]) rfl ?_
  show Steps p.tables e below (T7.setTop (mkF m 101 #[.val (.int p0), .val (.long q1), .second, .val (.int p2), .val (.long q3), .second, .val (.int p4), .val (.ref ra), .val (.ref rb), .val (.int how), .val (.long idB), .second, .val (.ref b1), .val (.ref b5), .val (.int (0 : Int32)), .unset, .unset] [])) _
  refine XS.aload X7.here hx rfl (hb hby at_101) rfl rfl ?_
  show Steps p.tables e below (T7.setTop (mkF m 103 #[.val (.int p0), .val (.long q1), .second, .val (.int p2), .val (.long q3), .second, .val (.int p4), .val (.ref ra), .val (.ref rb), .val (.int how), .val (.long idB), .second, .val (.ref b1), .val (.ref b5), .val (.int (0 : Int32)), .unset, .unset] [(.ref b1)])) _
  refine XS.aload X7.here hx rfl (hb hby at_103) rfl rfl ?_
  show Steps p.tables e below (T7.setTop (mkF m 105 #[.val (.int p0), .val (.long q1), .second, .val (.int p2), .val (.long q3), .second, .val (.int p4), .val (.ref ra), .val (.ref rb), .val (.int how), .val (.long idB), .second, .val (.ref b1), .val (.ref b5), .val (.int (0 : Int32)), .unset, .unset] [(.ref b5), (.ref b1)])) _
  refine st9.trans ?_
  show Steps p.tables e below (T9.setTop (mkF m 108 #[.val (.int p0), .val (.long q1), .second, .val (.int p2), .val (.long q3), .second, .val (.int p4), .val (.ref ra), .val (.ref rb), .val (.int how), .val (.long idB), .second, .val (.ref b1), .val (.ref b5), .val (.int (0 : Int32)), .unset, .unset] [(.int (0 : Int32))])) _
  refine XS.iload X9.here hx rfl (hb hby at_108) rfl ?_
  show Steps p.tables e below (T9.setTop (mkF m 110 #[.val (.int p0), .val (.long q1), .second, .val (.int p2), .val (.long q3), .second, .val (.int p4), .val (.ref ra), .val (.ref rb), .val (.int how), .val (.long idB), .second, .val (.ref b1), .val (.ref b5), .val (.int (0 : Int32)), .unset, .unset] [(.int (0 : Int32)), (.int (0 : Int32))])) _
  refine XS.icmpNo X9.here hx rfl (hb hby at_110) rfl (teq (by decide)).2 ?_
  show Steps p.tables e below (T9.setTop (mkF m 113 #[.val (.int p0), .val (.long q1), .second, .val (.int p2), .val (.long q3), .second, .val (.int p4), .val (.ref ra), .val (.ref rb), .val (.int how), .val (.long idB), .second, .val (.ref b1), .val (.ref b5), .val (.int (0 : Int32)), .unset, .unset] [])) _
  refine XS.aload X9.here hx rfl (hb hby at_113) rfl rfl ?_
  show Steps p.tables e below (T9.setTop (mkF m 115 #[.val (.int p0), .val (.long q1), .second, .val (.int p2), .val (.long q3), .second, .val (.int p4), .val (.ref ra), .val (.ref rb), .val (.int how), .val (.long idB), .second, .val (.ref b1), .val (.ref b5), .val (.int (0 : Int32)), .unset, .unset] [(.ref b5)])) _
  refine XS.aload X9.here hx rfl (hb hby at_115) rfl rfl ?_
  show Steps p.tables e below (T9.setTop (mkF m 117 #[.val (.int p0), .val (.long q1), .second, .val (.int p2), .val (.long q3), .second, .val (.int p4), .val (.ref ra), .val (.ref rb), .val (.int how), .val (.long idB), .second, .val (.ref b1), .val (.ref b5), .val (.int (0 : Int32)), .unset, .unset] [(.ref b1), (.ref b5)])) _
  refine st10.trans ?_
  show Steps p.tables e below (T10.setTop (mkF m 120 #[.val (.int p0), .val (.long q1), .second, .val (.int p2), .val (.long q3), .second, .val (.int p4), .val (.ref ra), .val (.ref rb), .val (.int how), .val (.long idB), .second, .val (.ref b1), .val (.ref b5), .val (.int (0 : Int32)), .unset, .unset] [(.int (0 : Int32))])) _
  refine XS.iload X10.here hx rfl (hb hby at_120) rfl ?_
  show Steps p.tables e below (T10.setTop (mkF m 122 #[.val (.int p0), .val (.long q1), .second, .val (.int p2), .val (.long q3), .second, .val (.int p4), .val (.ref ra), .val (.ref rb), .val (.int how), .val (.long idB), .second, .val (.ref b1), .val (.ref b5), .val (.int (0 : Int32)), .unset, .unset] [(.int (0 : Int32)), (.int (0 : Int32))])) _
  refine XS.icmpNo X10.here hx rfl (hb hby at_122) rfl (teq (by decide)).2 ?_
  show Steps p.tables e below (T10.setTop (mkF m 125 #[.val (.int p0), .val (.long q1), .second, .val (.int p2), .val (.long q3), .second, .val (.int p4), .val (.ref ra), .val (.ref rb), .val (.int how), .val (.long idB), .second, .val (.ref b1), .val (.ref b5), .val (.int (0 : Int32)), .unset, .unset] [])) _
  refine XS.iconst X10.here hx rfl (hb hby at_125) ?_
  show Steps p.tables e below (T10.setTop (mkF m 126 #[.val (.int p0), .val (.long q1), .second, .val (.int p2), .val (.long q3), .second, .val (.int p4), .val (.ref ra), .val (.ref rb), .val (.int how), .val (.long idB), .second, .val (.ref b1), .val (.ref b5), .val (.int (0 : Int32)), .unset, .unset] [(.int (1 : Int32))])) _
  refine XS.goto X10.here hx rfl (pc0 := 126) (pc' := 130) rfl (hb hby at_126) (by decide) (by decide) ?_
  show Steps p.tables e below (T10.setTop (mkF m 130 #[.val (.int p0), .val (.long q1), .second, .val (.int p2), .val (.long q3), .second, .val (.int p4), .val (.ref ra), .val (.ref rb), .val (.int how), .val (.long idB), .second, .val (.ref b1), .val (.ref b5), .val (.int (0 : Int32)), .unset, .unset] [(.int (1 : Int32))])) _
  refine XS.istore X10.here hx rfl (hb hby at_130) rfl (l' := #[.val (.int p0), .val (.long q1), .second, .val (.int p2), .val (.long q3), .second, .val (.int p4), .val (.ref ra), .val (.ref rb), .val (.int how), .val (.long idB), .second, .val (.ref b1), .val (.ref b5), .val (.int (0 : Int32)), .val (.int (1 : Int32)), .unset]) rfl ?_
  show Steps p.tables e below (T10.setTop (mkF m 132 #[.val (.int p0), .val (.long q1), .second, .val (.int p2), .val (.long q3), .second, .val (.int p4), .val (.ref ra), .val (.ref rb), .val (.int how), .val (.long idB), .second, .val (.ref b1), .val (.ref b5), .val (.int (0 : Int32)), .val (.int (1 : Int32)), .unset] [])) _
  refine XS.iload X10.here hx rfl (hb hby at_132) rfl ?_
  show Steps p.tables e below (T10.setTop (mkF m 134 #[.val (.int p0), .val (.long q1), .second, .val (.int p2), .val (.long q3), .second, .val (.int p4), .val (.ref ra), .val (.ref rb), .val (.int how), .val (.long idB), .second, .val (.ref b1), .val (.ref b5), .val (.int (0 : Int32)), .val (.int (1 : Int32)), .unset] [(.int p4)])) _
  refine XS.bipush X10.here hx rfl (hb hby at_134) ?_
  show Steps p.tables e below (T10.setTop (mkF m 136 #[.val (.int p0), .val (.long q1), .second, .val (.int p2), .val (.long q3), .second, .val (.int p4), .val (.ref ra), .val (.ref rb), .val (.int how), .val (.long idB), .second, .val (.ref b1), .val (.ref b5), .val (.int (0 : Int32)), .val (.int (1 : Int32)), .unset] [(.int (8 : Int32)), (.int p4)])) _
  refine XS.iushr X10.here hx rfl (hb hby at_136) rfl ?_
  show Steps p.tables e below (T10.setTop (mkF m 137 #[.val (.int p0), .val (.long q1), .second, .val (.int p2), .val (.long q3), .second, .val (.int p4), .val (.ref ra), .val (.ref rb), .val (.int how), .val (.long idB), .second, .val (.ref b1), .val (.ref b5), .val (.int (0 : Int32)), .val (.int (1 : Int32)), .unset] [(.int ((p4.toUInt32 >>> ((8 : Int32) &&& 31).toUInt32).toInt32))])) _
  refine XS.iconst X10.here hx rfl (hb hby at_137) ?_
  show Steps p.tables e below (T10.setTop (mkF m 138 #[.val (.int p0), .val (.long q1), .second, .val (.int p2), .val (.long q3), .second, .val (.int p4), .val (.ref ra), .val (.ref rb), .val (.int how), .val (.long idB), .second, .val (.ref b1), .val (.ref b5), .val (.int (0 : Int32)), .val (.int (1 : Int32)), .unset] [(.int (3 : Int32)), (.int ((p4.toUInt32 >>> ((8 : Int32) &&& 31).toUInt32).toInt32))])) _
  refine XS.iand X10.here hx rfl (hb hby at_138) rfl ?_
  show Steps p.tables e below (T10.setTop (mkF m 139 #[.val (.int p0), .val (.long q1), .second, .val (.int p2), .val (.long q3), .second, .val (.int p4), .val (.ref ra), .val (.ref rb), .val (.int how), .val (.long idB), .second, .val (.ref b1), .val (.ref b5), .val (.int (0 : Int32)), .val (.int (1 : Int32)), .unset] [(.int (((p4.toUInt32 >>> ((8 : Int32) &&& 31).toUInt32).toInt32) &&& (3 : Int32)))])) _
  refine XS.istore X10.here hx rfl (hb hby at_139) rfl (l' := #[.val (.int p0), .val (.long q1), .second, .val (.int p2), .val (.long q3), .second, .val (.int p4), .val (.ref ra), .val (.ref rb), .val (.int how), .val (.long idB), .second, .val (.ref b1), .val (.ref b5), .val (.int (0 : Int32)), .val (.int (1 : Int32)), .val (.int (((p4.toUInt32 >>> ((8 : Int32) &&& 31).toUInt32).toInt32) &&& (3 : Int32)))]) rfl ?_
  show Steps p.tables e below (T10.setTop (mkF m 141 #[.val (.int p0), .val (.long q1), .second, .val (.int p2), .val (.long q3), .second, .val (.int p4), .val (.ref ra), .val (.ref rb), .val (.int how), .val (.long idB), .second, .val (.ref b1), .val (.ref b5), .val (.int (0 : Int32)), .val (.int (1 : Int32)), .val (.int (((p4.toUInt32 >>> ((8 : Int32) &&& 31).toUInt32).toInt32) &&& (3 : Int32)))] [])) _
  refine XS.iload X10.here hx rfl (hb hby at_141) rfl ?_
  show Steps p.tables e below (T10.setTop (mkF m 143 #[.val (.int p0), .val (.long q1), .second, .val (.int p2), .val (.long q3), .second, .val (.int p4), .val (.ref ra), .val (.ref rb), .val (.int how), .val (.long idB), .second, .val (.ref b1), .val (.ref b5), .val (.int (0 : Int32)), .val (.int (1 : Int32)), .val (.int (((p4.toUInt32 >>> ((8 : Int32) &&& 31).toUInt32).toInt32) &&& (3 : Int32)))] [(.int (((p4.toUInt32 >>> ((8 : Int32) &&& 31).toUInt32).toInt32) &&& (3 : Int32)))])) _
  refine XS.iconst X10.here hx rfl (hb hby at_143) ?_
  show Steps p.tables e below (T10.setTop (mkF m 144 #[.val (.int p0), .val (.long q1), .second, .val (.int p2), .val (.long q3), .second, .val (.int p4), .val (.ref ra), .val (.ref rb), .val (.int how), .val (.long idB), .second, .val (.ref b1), .val (.ref b5), .val (.int (0 : Int32)), .val (.int (1 : Int32)), .val (.int (((p4.toUInt32 >>> ((8 : Int32) &&& 31).toUInt32).toInt32) &&& (3 : Int32)))] [(.int (1 : Int32)), (.int (((p4.toUInt32 >>> ((8 : Int32) &&& 31).toUInt32).toInt32) &&& (3 : Int32)))])) _
  refine XS.icmpYes X10.here hx rfl (pc0 := 144) (pc' := 171) rfl (hb hby at_144) rfl (feq hc144).2 (by decide) (by decide) ?_
  show Steps p.tables e below (T10.setTop (mkF m 171 #[.val (.int p0), .val (.long q1), .second, .val (.int p2), .val (.long q3), .second, .val (.int p4), .val (.ref ra), .val (.ref rb), .val (.int how), .val (.long idB), .second, .val (.ref b1), .val (.ref b5), .val (.int (0 : Int32)), .val (.int (1 : Int32)), .val (.int (((p4.toUInt32 >>> ((8 : Int32) &&& 31).toUInt32).toInt32) &&& (3 : Int32)))] [])) _
  refine XS.iload X10.here hx rfl (hb hby at_171) rfl ?_
  show Steps p.tables e below (T10.setTop (mkF m 173 #[.val (.int p0), .val (.long q1), .second, .val (.int p2), .val (.long q3), .second, .val (.int p4), .val (.ref ra), .val (.ref rb), .val (.int how), .val (.long idB), .second, .val (.ref b1), .val (.ref b5), .val (.int (0 : Int32)), .val (.int (1 : Int32)), .val (.int (((p4.toUInt32 >>> ((8 : Int32) &&& 31).toUInt32).toInt32) &&& (3 : Int32)))] [(.int (((p4.toUInt32 >>> ((8 : Int32) &&& 31).toUInt32).toInt32) &&& (3 : Int32)))])) _
  refine XS.iconst X10.here hx rfl (hb hby at_173) ?_
  show Steps p.tables e below (T10.setTop (mkF m 174 #[.val (.int p0), .val (.long q1), .second, .val (.int p2), .val (.long q3), .second, .val (.int p4), .val (.ref ra), .val (.ref rb), .val (.int how), .val (.long idB), .second, .val (.ref b1), .val (.ref b5), .val (.int (0 : Int32)), .val (.int (1 : Int32)), .val (.int (((p4.toUInt32 >>> ((8 : Int32) &&& 31).toUInt32).toInt32) &&& (3 : Int32)))] [(.int (2 : Int32)), (.int (((p4.toUInt32 >>> ((8 : Int32) &&& 31).toUInt32).toInt32) &&& (3 : Int32)))])) _
  refine XS.icmpNo X10.here hx rfl (hb hby at_174) rfl (teq hc174).2 ?_
  show Steps p.tables e below (T10.setTop (mkF m 177 #[.val (.int p0), .val (.long q1), .second, .val (.int p2), .val (.long q3), .second, .val (.int p4), .val (.ref ra), .val (.ref rb), .val (.int how), .val (.long idB), .second, .val (.ref b1), .val (.ref b5), .val (.int (0 : Int32)), .val (.int (1 : Int32)), .val (.int (((p4.toUInt32 >>> ((8 : Int32) &&& 31).toUInt32).toInt32) &&& (3 : Int32)))] [])) _
  refine XS.iload X10.here hx rfl (hb hby at_177) rfl ?_
  show Steps p.tables e below (T10.setTop (mkF m 179 #[.val (.int p0), .val (.long q1), .second, .val (.int p2), .val (.long q3), .second, .val (.int p4), .val (.ref ra), .val (.ref rb), .val (.int how), .val (.long idB), .second, .val (.ref b1), .val (.ref b5), .val (.int (0 : Int32)), .val (.int (1 : Int32)), .val (.int (((p4.toUInt32 >>> ((8 : Int32) &&& 31).toUInt32).toInt32) &&& (3 : Int32)))] [(.int (1 : Int32))])) _
  refine XS.ifNo X10.here hx rfl (hb hby at_179) rfl ((if0 _ _).trans (feq (by decide)).1) ?_
  show Steps p.tables e below (T10.setTop (mkF m 182 #[.val (.int p0), .val (.long q1), .second, .val (.int p2), .val (.long q3), .second, .val (.int p4), .val (.ref ra), .val (.ref rb), .val (.int how), .val (.long idB), .second, .val (.ref b1), .val (.ref b5), .val (.int (0 : Int32)), .val (.int (1 : Int32)), .val (.int (((p4.toUInt32 >>> ((8 : Int32) &&& 31).toUInt32).toInt32) &&& (3 : Int32)))] [])) _
  refine XS.aload X10.here hx rfl (hb hby at_182) rfl rfl ?_
  show Steps p.tables e below (T10.setTop (mkF m 184 #[.val (.int p0), .val (.long q1), .second, .val (.int p2), .val (.long q3), .second, .val (.int p4), .val (.ref ra), .val (.ref rb), .val (.int how), .val (.long idB), .second, .val (.ref b1), .val (.ref b5), .val (.int (0 : Int32)), .val (.int (1 : Int32)), .val (.int (((p4.toUInt32 >>> ((8 : Int32) &&& 31).toUInt32).toInt32) &&& (3 : Int32)))] [(.ref b1)])) _
  refine XS.lloadN X10.here hx rfl (hb hby at_184) rfl ?_
  show Steps p.tables e below (T10.setTop (mkF m 185 #[.val (.int p0), .val (.long q1), .second, .val (.int p2), .val (.long q3), .second, .val (.int p4), .val (.ref ra), .val (.ref rb), .val (.int how), .val (.long idB), .second, .val (.ref b1), .val (.ref b5), .val (.int (0 : Int32)), .val (.int (1 : Int32)), .val (.int (((p4.toUInt32 >>> ((8 : Int32) &&& 31).toUInt32).toInt32) &&& (3 : Int32)))] [(.long q1), (.ref b1)])) _
  refine st11 _ ?_
  show Steps p.tables e below (T11.setTop (mkF m 188 #[.val (.int p0), .val (.long q1), .second, .val (.int p2), .val (.long q3), .second, .val (.int p4), .val (.ref ra), .val (.ref rb), .val (.int how), .val (.long idB), .second, .val (.ref b1), .val (.ref b5), .val (.int (0 : Int32)), .val (.int (1 : Int32)), .val (.int (((p4.toUInt32 >>> ((8 : Int32) &&& 31).toUInt32).toInt32) &&& (3 : Int32)))] [(.ref v11), (.ref b1)])) _
  refine st13.trans ?_
  show Steps p.tables e below (T13.setTop (mkF m 191 #[.val (.int p0), .val (.long q1), .second, .val (.int p2), .val (.long q3), .second, .val (.int p4), .val (.ref ra), .val (.ref rb), .val (.int how), .val (.long idB), .second, .val (.ref b1), .val (.ref b5), .val (.int (0 : Int32)), .val (.int (1 : Int32)), .val (.int (((p4.toUInt32 >>> ((8 : Int32) &&& 31).toUInt32).toInt32) &&& (3 : Int32)))] [(.int (0 : Int32))])) _
  refine XS.ifNo X13.here hx rfl (hb hby at_191) rfl ((if0 _ _).trans (teq (by decide)).2) ?_
  show Steps p.tables e below (T13.setTop (mkF m 194 #[.val (.int p0), .val (.long q1), .second, .val (.int p2), .val (.long q3), .second, .val (.int p4), .val (.ref ra), .val (.ref rb), .val (.int how), .val (.long idB), .second, .val (.ref b1), .val (.ref b5), .val (.int (0 : Int32)), .val (.int (1 : Int32)), .val (.int (((p4.toUInt32 >>> ((8 : Int32) &&& 31).toUInt32).toInt32) &&& (3 : Int32)))] [])) _
  refine XS.iconst X13.here hx rfl (hb hby at_194) ?_
  show Steps p.tables e below (T13.setTop (mkF m 195 #[.val (.int p0), .val (.long q1), .second, .val (.int p2), .val (.long q3), .second, .val (.int p4), .val (.ref ra), .val (.ref rb), .val (.int how), .val (.long idB), .second, .val (.ref b1), .val (.ref b5), .val (.int (0 : Int32)), .val (.int (1 : Int32)), .val (.int (((p4.toUInt32 >>> ((8 : Int32) &&& 31).toUInt32).toInt32) &&& (3 : Int32)))] [(.int (1 : Int32))])) _
  refine XS.goto X13.here hx rfl (pc0 := 195) (pc' := 199) rfl (hb hby at_195) (by decide) (by decide) ?_
  show Steps p.tables e below (T13.setTop (mkF m 199 #[.val (.int p0), .val (.long q1), .second, .val (.int p2), .val (.long q3), .second, .val (.int p4), .val (.ref ra), .val (.ref rb), .val (.int how), .val (.long idB), .second, .val (.ref b1), .val (.ref b5), .val (.int (0 : Int32)), .val (.int (1 : Int32)), .val (.int (((p4.toUInt32 >>> ((8 : Int32) &&& 31).toUInt32).toInt32) &&& (3 : Int32)))] [(.int (1 : Int32))])) _
  refine XS.istore X13.here hx rfl (hb hby at_199) rfl (l' := #[.val (.int p0), .val (.long q1), .second, .val (.int p2), .val (.long q3), .second, .val (.int p4), .val (.ref ra), .val (.ref rb), .val (.int how), .val (.long idB), .second, .val (.ref b1), .val (.ref b5), .val (.int (0 : Int32)), .val (.int (1 : Int32)), .val (.int (((p4.toUInt32 >>> ((8 : Int32) &&& 31).toUInt32).toInt32) &&& (3 : Int32)))]) rfl ?_
  show Steps p.tables e below (T13.setTop (mkF m 201 #[.val (.int p0), .val (.long q1), .second, .val (.int p2), .val (.long q3), .second, .val (.int p4), .val (.ref ra), .val (.ref rb), .val (.int how), .val (.long idB), .second, .val (.ref b1), .val (.ref b5), .val (.int (0 : Int32)), .val (.int (1 : Int32)), .val (.int (((p4.toUInt32 >>> ((8 : Int32) &&& 31).toUInt32).toInt32) &&& (3 : Int32)))] [])) _
  refine XS.goto X13.here hx rfl (pc0 := 201) (pc' := 232) rfl (hb hby at_201) (by decide) (by decide) ?_
  show Steps p.tables e below (T13.setTop (mkF m 232 #[.val (.int p0), .val (.long q1), .second, .val (.int p2), .val (.long q3), .second, .val (.int p4), .val (.ref ra), .val (.ref rb), .val (.int how), .val (.long idB), .second, .val (.ref b1), .val (.ref b5), .val (.int (0 : Int32)), .val (.int (1 : Int32)), .val (.int (((p4.toUInt32 >>> ((8 : Int32) &&& 31).toUInt32).toInt32) &&& (3 : Int32)))] [])) _
  refine XS.iload X13.here hx rfl (hb hby at_232) rfl ?_
  show Steps p.tables e below (T13.setTop (mkF m 234 #[.val (.int p0), .val (.long q1), .second, .val (.int p2), .val (.long q3), .second, .val (.int p4), .val (.ref ra), .val (.ref rb), .val (.int how), .val (.long idB), .second, .val (.ref b1), .val (.ref b5), .val (.int (0 : Int32)), .val (.int (1 : Int32)), .val (.int (((p4.toUInt32 >>> ((8 : Int32) &&& 31).toUInt32).toInt32) &&& (3 : Int32)))] [(.int (1 : Int32))])) _
  exact retN X13 hx (t := .boolean) hret (by simp) (hb hby at_234) hr
set_option maxRecDepth 65536 in
set_option maxHeartbeats 40000000 in
theorem tail_tttf (l : Launch) (Z : State) (a0 : Array Value) (hw : ∀ d ∈ tables_1, d.before a0 Z = true) (p0 : Int32) (q1 : Int64) (p2 : Int32) (q3 : Int64) (p4 : Int32) (ra : Addr) (rb : Addr) (how : Int32) (idB : Int64) (ca : Addr) (cl : Cell) (h0 : Heap) (n0 : Nat) (Z0 : n0 ≤ h0.size) (E_ra : Exa Z h0 ra "com/example/lessor/lessor/namespace/FileType") (E_rb : Exa Z h0 rb "com/example/lessor/lessor/namespace/FileType") (ha84 : ra = rb) (hc91 : ¬ (q1 = idB)) (hc144 : ¬ ((((p4.toUInt32 >>> ((8 : Int32) &&& 31).toUInt32).toInt32) &&& (3 : Int32)) = (1 : Int32))) (hc174 : (((p4.toUInt32 >>> ((8 : Int32) &&& 31).toUInt32).toInt32) &&& (3 : Int32)) = (2 : Int32)) (hC : Cache Z h0 ca cl)
    {p : Program} {e : Env} {s : State} {m : MethodId} {args : Array Value} {below : List Frame} {meth : Method} {c : Code} {s₁ : State} {locs : List Loc} (X0 : Stand p l e room_1 s m args below meth c s₁ locs 0 0) (N0 : Fr n0 locs) (hx : p.tables.exec = Jvm.exec) (hZ : Z.Warmed39 s.vm) (hby : c.code = code) (hml : c.maxLocals = 17) (hown : s.vm.findClass "com/example/lessor/lessor/namespace/BindingEqualsPinLaw" = some m.cls) (hret : meth.sig.returnType = ret) (hlk : meth.locks = false) (e0 : s₁.heap = h0) :
    ∃ s₂ o, Steps p.tables e below (s₁.setTop (mkF m 55 #[.val (.int p0), .val (.long q1), .second, .val (.int p2), .val (.long q3), .second, .val (.int p4), .val (.ref ra), .val (.ref rb), .val (.int how), .val (.long idB), .second, .unset, .unset, .unset, .unset, .unset] [])) s₂ ∧ s₂.status = .running ∧ Ended s₂ below o ∧ (∃ v L, o = .returned v ∧ (v = some (.int (1 : Int32)) ∧ Fr n0 L) ∧ FrameEnd s o s₂ L room_1.cells room_1.slots) := by
  obtain ⟨T1, h1, X1, e1, E1, A1, D1, -, st1⟩ := newO X0 hx hZ hown (hw _ (List.mem_of_getElem? (i := 9) rfl)) (hw _ (List.mem_of_getElem? (i := 10) rfl)) (hw _ (List.mem_of_getElem? (i := 11) rfl)) e0 (g := (mkF m 55 #[.val (.int p0), .val (.long q1), .second, .val (.int p2), .val (.long q3), .second, .val (.int p4), .val (.ref ra), .val (.ref rb), .val (.int how), .val (.long idB), .second, .unset, .unset, .unset, .unset, .unset] [])) rfl (hb hby at_55) (by decide) (by decide)
  obtain ⟨b1, g1⟩ : ∃ z, z = h0.size := ⟨_, rfl⟩
  rw [← g1] at A1 D1 st1
  have g_b1 : n0 ≤ b1 := Nat.le_trans Z0 (Nat.le_of_eq g1.symm)
  have sz_b1 : h0.size ≤ b1 := Nat.le_trans (Keep.refl h0 []).1 (Nat.le_of_eq g1.symm)
  have E_b1 := A1
  have F_type_b1 : Fld Z h1 b1 "com/example/lessor/lessor/namespace/Binding" "type" "Lcom/example/lessor/lessor/namespace/FileType;" .null := D1 (Or.inr (hw _ (List.mem_of_getElem? (i := 25) rfl))) (ty := (.object "com/example/lessor/lessor/namespace/FileType")) (by decide)
  have F_identifier_b1 : Fld Z h1 b1 "com/example/lessor/lessor/namespace/Binding" "identifier" "J" (.long (0 : Int64)) := D1 (Or.inr (hw _ (List.mem_of_getElem? (i := 27) rfl))) (ty := .long) (by decide)
  have K2 : Keep h0 h1 [] := (Keep.refl h0 []).ext E1
  obtain ⟨_, _, ⟨T3, L3, k3, n3⟩, -, X3, ⟨Lc3, hQ3, l3, y3, z3⟩, st3⟩ := X1.specialBack hx (y := (⟨"com/example/lessor/lessor/namespace/Binding", "<init>", "(Lcom/example/lessor/lessor/namespace/FileType;J)V"⟩ : MethodName)) rfl hown (mvT hZ (hw _ (List.mem_of_getElem? (i := 12) rfl))) (mvT hZ (hw _ (List.mem_of_getElem? (i := 13) rfl))) (mvT hZ (hw _ (List.mem_of_getElem? (i := 14) rfl))) (by decide) (backOf (W := 1) (rmBinding l Z a0 hw [] b1 ra q1 .null (.long (0 : Int64)) h1 n0 (Nat.le_trans Z0 K2.1) E_b1 (E_ra.ext E1) F_type_b1 g_b1 F_identifier_b1) hZ (hw _ (List.mem_of_getElem? (i := 14) rfl)) (hw _ (List.mem_of_getElem? (i := 11) rfl)) (by decide) (by decide)) (g := (mkF m 62 #[.val (.int p0), .val (.long q1), .second, .val (.int p2), .val (.long q3), .second, .val (.int p4), .val (.ref ra), .val (.ref rb), .val (.int how), .val (.long idB), .second, .unset, .unset, .unset, .unset, .unset] [(.long q1), (.ref ra), (.ref b1), (.ref b1)])) rfl (by rw [hml]; rfl) (Steps.refl _) (a := b1) (argsL := [(.ref ra), (.long q1)]) (rest := [(.ref b1)]) (lenOf pd__Lcom_example_lessor_lessor_namespace_FileType_J_V rfl) rfl (by show 2 * 0 + _ ≤ _; exact Nat.le_of_eq rfl) (hb hby at_62) (fun _ _ => ⟨rfl, e1, (by decide : 1 + 0 ≤ _), (by decide : 2 + 0 ≤ _)⟩)
  dsimp only [Pt.U, Pt.locs, Pt.cells, Pt.slots] at X3 l3 y3 z3 st3 hQ3
  subst l3 y3 z3
  obtain ⟨rfl, N3q, K3, E3, Ff3, Fd3⟩ := hQ3
  have K4 : Keep h0 T3.heap [] := K2.trans K3 (allS (P := fun x => x ∈ [] ∨ h0.size ≤ x) (Or.inr sz_b1) all0)
  have N3 := Fr.app N0 N3q
  obtain ⟨T5, h5, X5, e5, E5, A5, D5, -, st5⟩ := newO X3 hx hZ hown (hw _ (List.mem_of_getElem? (i := 9) rfl)) (hw _ (List.mem_of_getElem? (i := 10) rfl)) (hw _ (List.mem_of_getElem? (i := 11) rfl)) rfl (g := (mkF m 67 #[.val (.int p0), .val (.long q1), .second, .val (.int p2), .val (.long q3), .second, .val (.int p4), .val (.ref ra), .val (.ref rb), .val (.int how), .val (.long idB), .second, .val (.ref b1), .unset, .unset, .unset, .unset] [])) rfl (hb hby at_67) (by decide) (by decide)
  obtain ⟨b5, g5⟩ : ∃ z, z = T3.heap.size := ⟨_, rfl⟩
  rw [← g5] at A5 D5 st5
  have g_b5 : n0 ≤ b5 := Nat.le_trans (Nat.le_trans Z0 K4.1) (Nat.le_of_eq g5.symm)
  have sz_b5 : h0.size ≤ b5 := Nat.le_trans K4.1 (Nat.le_of_eq g5.symm)
  have E_b5 := A5
  have F_type_b5 : Fld Z h5 b5 "com/example/lessor/lessor/namespace/Binding" "type" "Lcom/example/lessor/lessor/namespace/FileType;" .null := D5 (Or.inr (hw _ (List.mem_of_getElem? (i := 25) rfl))) (ty := (.object "com/example/lessor/lessor/namespace/FileType")) (by decide)
  have F_identifier_b5 : Fld Z h5 b5 "com/example/lessor/lessor/namespace/Binding" "identifier" "J" (.long (0 : Int64)) := D5 (Or.inr (hw _ (List.mem_of_getElem? (i := 27) rfl))) (ty := .long) (by decide)
  have K6 : Keep h0 h5 [] := K4.ext E5
  obtain ⟨_, _, ⟨T7, L7, k7, n7⟩, -, X7, ⟨Lc7, hQ7, l7, y7, z7⟩, st7⟩ := X5.specialBack hx (y := (⟨"com/example/lessor/lessor/namespace/Binding", "<init>", "(Lcom/example/lessor/lessor/namespace/FileType;J)V"⟩ : MethodName)) rfl hown (mvT hZ (hw _ (List.mem_of_getElem? (i := 12) rfl))) (mvT hZ (hw _ (List.mem_of_getElem? (i := 13) rfl))) (mvT hZ (hw _ (List.mem_of_getElem? (i := 14) rfl))) (by decide) (backOf (W := 1) (rmBinding l Z a0 hw [] b5 rb idB .null (.long (0 : Int64)) h5 n0 (Nat.le_trans Z0 K6.1) E_b5 (((E_rb.ext E1).keep K3).ext E5) F_type_b5 g_b5 F_identifier_b5) hZ (hw _ (List.mem_of_getElem? (i := 14) rfl)) (hw _ (List.mem_of_getElem? (i := 11) rfl)) (by decide) (by decide)) (g := (mkF m 75 #[.val (.int p0), .val (.long q1), .second, .val (.int p2), .val (.long q3), .second, .val (.int p4), .val (.ref ra), .val (.ref rb), .val (.int how), .val (.long idB), .second, .val (.ref b1), .unset, .unset, .unset, .unset] [(.long idB), (.ref rb), (.ref b5), (.ref b5)])) rfl (by rw [hml]; rfl) (Steps.refl _) (a := b5) (argsL := [(.ref rb), (.long idB)]) (rest := [(.ref b5)]) (lenOf pd__Lcom_example_lessor_lessor_namespace_FileType_J_V rfl) rfl (by show 2 * 0 + _ ≤ _; exact Nat.le_of_eq rfl) (hb hby at_75) (fun _ _ => ⟨rfl, e5, (by decide : 2 + 0 ≤ _), (by decide : 4 + 0 ≤ _)⟩)
  dsimp only [Pt.U, Pt.locs, Pt.cells, Pt.slots] at X7 l7 y7 z7 st7 hQ7
  subst l7 y7 z7
  obtain ⟨rfl, N7q, K7, E7, Ff7, Fd7⟩ := hQ7
  have K8 : Keep h0 T7.heap [] := K6.trans K7 (allS (P := fun x => x ∈ [] ∨ h0.size ≤ x) (Or.inr sz_b5) all0)
  have N7 := Fr.app N3 N7q
  have ne_b1_b5 : b1 ≠ b5 := Nat.ne_of_lt (Nat.lt_of_lt_of_le E3.lt (Nat.le_of_eq g5.symm))
  obtain ⟨cq9, kq9, q9a, q9b, q9c⟩ := isOf hZ rfl ((E3.ext E5).keep K7)
  obtain ⟨_, _, ⟨T9, L9, k9, n9⟩, -, X9, ⟨Lc9, hQ9, l9, y9, z9⟩, st9⟩ := X7.virtualBack hx (y := (⟨"com/example/lessor/lessor/namespace/Binding", "equals", "(Ljava/lang/Object;)Z"⟩ : MethodName)) (z := (⟨"com/example/lessor/lessor/namespace/Binding", "equals", "(Ljava/lang/Object;)Z"⟩ : MethodName)) hown (mvT hZ (hw _ (List.mem_of_getElem? (i := 28) rfl))) (mvT hZ (hw _ (List.mem_of_getElem? (i := 29) rfl))) (notFace_of_selects (args := #[]) (mvT hZ (hw _ (List.mem_of_getElem? (i := 31) rfl)))) (mvT hZ (hw _ (List.mem_of_getElem? (i := 31) rfl))) (mvT hZ (hw _ (List.mem_of_getElem? (i := 30) rfl))) (by decide) (backOf (W := 0) (rmEq_tt l Z a0 hw [] b1 b5 ra rb q1 idB T7.heap n0 (Nat.le_trans Z0 K8.1) E7 ((Ff3.ext E5).keep K7 (ninS ne_b1_b5 nin0)) Ff7 ha84 ((Fd3.ext E5).keep K7 (ninS ne_b1_b5 nin0)) Fd7 hc91) hZ (hw _ (List.mem_of_getElem? (i := 32) rfl)) (hw _ (List.mem_of_getElem? (i := 11) rfl)) (by decide) (by decide)) q9a q9c (g := (mkF m 105 #[.val (.int p0), .val (.long q1), .second, .val (.int p2), .val (.long q3), .second, .val (.int p4), .val (.ref ra), .val (.ref rb), .val (.int how), .val (.long idB), .second, .val (.ref b1), .val (.ref b5), .val (.int (0 : Int32)), .unset, .unset] [(.ref b5), (.ref b1)])) rfl (by rw [hml]; rfl) (Steps.refl _) (argsL := [(.ref b5)]) (rest := []) (lenOf pd__Ljava_lang_Object__Z rfl) rfl (by show 2 * 0 + _ ≤ _; exact Nat.le_of_eq rfl) (hb hby at_105) (fun _ _ => ⟨rfl, rfl, (by decide : 2 + 0 ≤ _), (by decide : 4 + 0 ≤ _)⟩)
  dsimp only [Pt.U, Pt.locs, Pt.cells, Pt.slots] at X9 l9 y9 z9 st9 hQ9
  subst l9 y9 z9
  obtain ⟨rfl, N9q, e9⟩ := hQ9
  have N9 := Fr.app N7 N9q
  obtain ⟨cq10, kq10, q10a, q10b, q10c⟩ := isOf hZ e9 E7
  obtain ⟨_, _, ⟨T10, L10, k10, n10⟩, -, X10, ⟨Lc10, hQ10, l10, y10, z10⟩, st10⟩ := X9.virtualBack hx (y := (⟨"com/example/lessor/lessor/namespace/Binding", "equals", "(Ljava/lang/Object;)Z"⟩ : MethodName)) (z := (⟨"com/example/lessor/lessor/namespace/Binding", "equals", "(Ljava/lang/Object;)Z"⟩ : MethodName)) hown (mvT hZ (hw _ (List.mem_of_getElem? (i := 28) rfl))) (mvT hZ (hw _ (List.mem_of_getElem? (i := 29) rfl))) (notFace_of_selects (args := #[]) (mvT hZ (hw _ (List.mem_of_getElem? (i := 31) rfl)))) (mvT hZ (hw _ (List.mem_of_getElem? (i := 31) rfl))) (mvT hZ (hw _ (List.mem_of_getElem? (i := 30) rfl))) (by decide) (backOf (W := 0) (rmEq_tt l Z a0 hw [] b5 b1 rb ra idB q1 T7.heap n0 (Nat.le_trans Z0 K8.1) ((E3.ext E5).keep K7) Ff7 ((Ff3.ext E5).keep K7 (ninS ne_b1_b5 nin0)) (Eq.symm ha84) Fd7 ((Fd3.ext E5).keep K7 (ninS ne_b1_b5 nin0)) (fun q => hc91 (Eq.symm q))) hZ (hw _ (List.mem_of_getElem? (i := 32) rfl)) (hw _ (List.mem_of_getElem? (i := 11) rfl)) (by decide) (by decide)) q10a q10c (g := (mkF m 117 #[.val (.int p0), .val (.long q1), .second, .val (.int p2), .val (.long q3), .second, .val (.int p4), .val (.ref ra), .val (.ref rb), .val (.int how), .val (.long idB), .second, .val (.ref b1), .val (.ref b5), .val (.int (0 : Int32)), .unset, .unset] [(.ref b1), (.ref b5)])) rfl (by rw [hml]; rfl) (Steps.refl _) (argsL := [(.ref b1)]) (rest := []) (lenOf pd__Ljava_lang_Object__Z rfl) rfl (by show 2 * 0 + _ ≤ _; exact Nat.le_of_eq rfl) (hb hby at_117) (fun _ _ => ⟨rfl, e9, (by decide : 2 + 0 ≤ _), (by decide : 4 + 0 ≤ _)⟩)
  dsimp only [Pt.U, Pt.locs, Pt.cells, Pt.slots] at X10 l10 y10 z10 st10 hQ10
  subst l10 y10 z10
  obtain ⟨rfl, N10q, e10⟩ := hQ10
  have N10 := Fr.app N9 N10q
  obtain ⟨_, _, ⟨T11, L11, k11, n11⟩, -, X11, ⟨Lc11, hQ11, l11, y11, z11⟩, st11⟩ := Jvm.LawKit.callS X10 hx (y := (⟨"java/lang/Long", "valueOf", "(J)Ljava/lang/Long;"⟩ : MethodName)) hown (mvT hZ (hw _ (List.mem_of_getElem? (i := 35) rfl))) (mvT hZ (hw _ (List.mem_of_getElem? (i := 36) rfl))) (mvT hZ (hw _ (List.mem_of_getElem? (i := 37) rfl))) (mvT hZ (hw _ (List.mem_of_getElem? (i := 38) rfl))) (by decide) (backOf (W := 1) (own_vo l Z a0 hw [] q1 ca cl T7.heap n0 (Nat.le_trans Z0 K8.1) (hC.keep K8)) hZ (hw _ (List.mem_of_getElem? (i := 38) rfl)) (hw _ (List.mem_of_getElem? (i := 37) rfl)) (by decide) (by decide)) (g := (mkF m 185 #[.val (.int p0), .val (.long q1), .second, .val (.int p2), .val (.long q3), .second, .val (.int p4), .val (.ref ra), .val (.ref rb), .val (.int how), .val (.long idB), .second, .val (.ref b1), .val (.ref b5), .val (.int (0 : Int32)), .val (.int (1 : Int32)), .val (.int (((p4.toUInt32 >>> ((8 : Int32) &&& 31).toUInt32).toInt32) &&& (3 : Int32)))] [(.long q1), (.ref b1)])) rfl (by rw [hml]; rfl) (argsL := [(.long q1)]) (rest := [(.ref b1)]) (lenOf pd__J_Ljava_lang_Long_ rfl) rfl (by show 2 * 0 + _ ≤ _; exact Nat.le_of_eq rfl) (hb hby at_185) (fun _ _ => ⟨rfl, e10, (by decide : 2 + 1 ≤ _), (by decide : 4 + 1 ≤ _)⟩)
  dsimp only [Pt.U, Pt.locs, Pt.cells, Pt.slots] at X11 l11 y11 z11 st11 hQ11
  subst l11 y11 z11
  obtain ⟨v11, rfl, N11q, K11, E11⟩ := hQ11
  have K12 : Keep h0 T11.heap [] := K8.trans K11 all0
  have N11 := Fr.app N10 N11q
  obtain ⟨cq13, kq13, q13a, q13b, q13c⟩ := isOf hZ rfl (((E3.ext E5).keep K7).keep K11)
  obtain ⟨_, _, ⟨T13, L13, k13, n13⟩, -, X13, ⟨Lc13, hQ13, l13, y13, z13⟩, st13⟩ := X11.virtualBack hx (y := (⟨"com/example/lessor/lessor/namespace/Binding", "equals", "(Ljava/lang/Object;)Z"⟩ : MethodName)) (z := (⟨"com/example/lessor/lessor/namespace/Binding", "equals", "(Ljava/lang/Object;)Z"⟩ : MethodName)) hown (mvT hZ (hw _ (List.mem_of_getElem? (i := 28) rfl))) (mvT hZ (hw _ (List.mem_of_getElem? (i := 29) rfl))) (notFace_of_selects (args := #[]) (mvT hZ (hw _ (List.mem_of_getElem? (i := 31) rfl)))) (mvT hZ (hw _ (List.mem_of_getElem? (i := 31) rfl))) (mvT hZ (hw _ (List.mem_of_getElem? (i := 30) rfl))) (by decide) (backOf (W := 0) (rmEq_long l Z a0 hw [] b1 v11 T11.heap n0 (Nat.le_trans Z0 K12.1) E11) hZ (hw _ (List.mem_of_getElem? (i := 32) rfl)) (hw _ (List.mem_of_getElem? (i := 11) rfl)) (by decide) (by decide)) q13a q13c (g := (mkF m 188 #[.val (.int p0), .val (.long q1), .second, .val (.int p2), .val (.long q3), .second, .val (.int p4), .val (.ref ra), .val (.ref rb), .val (.int how), .val (.long idB), .second, .val (.ref b1), .val (.ref b5), .val (.int (0 : Int32)), .val (.int (1 : Int32)), .val (.int (((p4.toUInt32 >>> ((8 : Int32) &&& 31).toUInt32).toInt32) &&& (3 : Int32)))] [(.ref v11), (.ref b1)])) rfl (by rw [hml]; rfl) (Steps.refl _) (argsL := [(.ref v11)]) (rest := []) (lenOf pd__Ljava_lang_Object__Z rfl) rfl (by show 2 * 0 + _ ≤ _; exact Nat.le_of_eq rfl) (hb hby at_188) (fun _ _ => ⟨rfl, rfl, (by decide : 3 + 0 ≤ _), (by decide : 5 + 0 ≤ _)⟩)
  dsimp only [Pt.U, Pt.locs, Pt.cells, Pt.slots] at X13 l13 y13 z13 st13 hQ13
  subst l13 y13 z13
  obtain ⟨rfl, N13q, e13⟩ := hQ13
  have N13 := Fr.app N11 N13q
  obtain ⟨fs, hr, hrun, hended, hW, hsame⟩ := X13.leave (v := some (.int (1 : Int32))) (fun h => by rw [hret] at h; cases h)
  refine ⟨_, _, ?_, hrun, hended, _, _, rfl, ⟨rfl, N13⟩, ⟨_, rfl⟩, hW, hsame.mono (by decide) (by decide)⟩
  show Steps p.tables e below (s₁.setTop (mkF m 55 #[.val (.int p0), .val (.long q1), .second, .val (.int p2), .val (.long q3), .second, .val (.int p4), .val (.ref ra), .val (.ref rb), .val (.int how), .val (.long idB), .second, .unset, .unset, .unset, .unset, .unset] [])) _
  refine st1 _ ?_
  show Steps p.tables e below (T1.setTop (mkF m 58 #[.val (.int p0), .val (.long q1), .second, .val (.int p2), .val (.long q3), .second, .val (.int p4), .val (.ref ra), .val (.ref rb), .val (.int how), .val (.long idB), .second, .unset, .unset, .unset, .unset, .unset] [(.ref b1)])) _
  refine XS.dup X1.here hx rfl (hb hby at_58) rfl rfl ?_
  show Steps p.tables e below (T1.setTop (mkF m 59 #[.val (.int p0), .val (.long q1), .second, .val (.int p2), .val (.long q3), .second, .val (.int p4), .val (.ref ra), .val (.ref rb), .val (.int how), .val (.long idB), .second, .unset, .unset, .unset, .unset, .unset] [(.ref b1), (.ref b1)])) _
  refine XS.aload X1.here hx rfl (hb hby at_59) rfl rfl ?_
  show Steps p.tables e below (T1.setTop (mkF m 61 #[.val (.int p0), .val (.long q1), .second, .val (.int p2), .val (.long q3), .second, .val (.int p4), .val (.ref ra), .val (.ref rb), .val (.int how), .val (.long idB), .second, .unset, .unset, .unset, .unset, .unset] [(.ref ra), (.ref b1), (.ref b1)])) _
  refine XS.lloadN X1.here hx rfl (hb hby at_61) rfl ?_
  show Steps p.tables e below (T1.setTop (mkF m 62 #[.val (.int p0), .val (.long q1), .second, .val (.int p2), .val (.long q3), .second, .val (.int p4), .val (.ref ra), .val (.ref rb), .val (.int how), .val (.long idB), .second, .unset, .unset, .unset, .unset, .unset] [(.long q1), (.ref ra), (.ref b1), (.ref b1)])) _
  refine st3.trans ?_
  show Steps p.tables e below (T3.setTop (mkF m 65 #[.val (.int p0), .val (.long q1), .second, .val (.int p2), .val (.long q3), .second, .val (.int p4), .val (.ref ra), .val (.ref rb), .val (.int how), .val (.long idB), .second, .unset, .unset, .unset, .unset, .unset] [(.ref b1)])) _
  refine XS.astore X3.here hx rfl (hb hby at_65) rfl rfl (l' := #[.val (.int p0), .val (.long q1), .second, .val (.int p2), .val (.long q3), .second, .val (.int p4), .val (.ref ra), .val (.ref rb), .val (.int how), .val (.long idB), .second, .val (.ref b1), .unset, .unset, .unset, .unset]) rfl ?_
  show Steps p.tables e below (T3.setTop (mkF m 67 #[.val (.int p0), .val (.long q1), .second, .val (.int p2), .val (.long q3), .second, .val (.int p4), .val (.ref ra), .val (.ref rb), .val (.int how), .val (.long idB), .second, .val (.ref b1), .unset, .unset, .unset, .unset] [])) _
  refine st5 _ ?_
  show Steps p.tables e below (T5.setTop (mkF m 70 #[.val (.int p0), .val (.long q1), .second, .val (.int p2), .val (.long q3), .second, .val (.int p4), .val (.ref ra), .val (.ref rb), .val (.int how), .val (.long idB), .second, .val (.ref b1), .unset, .unset, .unset, .unset] [(.ref b5)])) _
  refine XS.dup X5.here hx rfl (hb hby at_70) rfl rfl ?_
  show Steps p.tables e below (T5.setTop (mkF m 71 #[.val (.int p0), .val (.long q1), .second, .val (.int p2), .val (.long q3), .second, .val (.int p4), .val (.ref ra), .val (.ref rb), .val (.int how), .val (.long idB), .second, .val (.ref b1), .unset, .unset, .unset, .unset] [(.ref b5), (.ref b5)])) _
  refine XS.aload X5.here hx rfl (hb hby at_71) rfl rfl ?_
  show Steps p.tables e below (T5.setTop (mkF m 73 #[.val (.int p0), .val (.long q1), .second, .val (.int p2), .val (.long q3), .second, .val (.int p4), .val (.ref ra), .val (.ref rb), .val (.int how), .val (.long idB), .second, .val (.ref b1), .unset, .unset, .unset, .unset] [(.ref rb), (.ref b5), (.ref b5)])) _
  refine XS.lload X5.here hx rfl (hb hby at_73) rfl ?_
  show Steps p.tables e below (T5.setTop (mkF m 75 #[.val (.int p0), .val (.long q1), .second, .val (.int p2), .val (.long q3), .second, .val (.int p4), .val (.ref ra), .val (.ref rb), .val (.int how), .val (.long idB), .second, .val (.ref b1), .unset, .unset, .unset, .unset] [(.long idB), (.ref rb), (.ref b5), (.ref b5)])) _
  refine st7.trans ?_
  show Steps p.tables e below (T7.setTop (mkF m 78 #[.val (.int p0), .val (.long q1), .second, .val (.int p2), .val (.long q3), .second, .val (.int p4), .val (.ref ra), .val (.ref rb), .val (.int how), .val (.long idB), .second, .val (.ref b1), .unset, .unset, .unset, .unset] [(.ref b5)])) _
  refine XS.astore X7.here hx rfl (hb hby at_78) rfl rfl (l' := #[.val (.int p0), .val (.long q1), .second, .val (.int p2), .val (.long q3), .second, .val (.int p4), .val (.ref ra), .val (.ref rb), .val (.int how), .val (.long idB), .second, .val (.ref b1), .val (.ref b5), .unset, .unset, .unset]) rfl ?_
  show Steps p.tables e below (T7.setTop (mkF m 80 #[.val (.int p0), .val (.long q1), .second, .val (.int p2), .val (.long q3), .second, .val (.int p4), .val (.ref ra), .val (.ref rb), .val (.int how), .val (.long idB), .second, .val (.ref b1), .val (.ref b5), .unset, .unset, .unset] [])) _
  refine XS.aload X7.here hx rfl (hb hby at_80) rfl rfl ?_
  show Steps p.tables e below (T7.setTop (mkF m 82 #[.val (.int p0), .val (.long q1), .second, .val (.int p2), .val (.long q3), .second, .val (.int p4), .val (.ref ra), .val (.ref rb), .val (.int how), .val (.long idB), .second, .val (.ref b1), .val (.ref b5), .unset, .unset, .unset] [(.ref ra)])) _
  refine XS.aload X7.here hx rfl (hb hby at_82) rfl rfl ?_
  show Steps p.tables e below (T7.setTop (mkF m 84 #[.val (.int p0), .val (.long q1), .second, .val (.int p2), .val (.long q3), .second, .val (.int p4), .val (.ref ra), .val (.ref rb), .val (.int how), .val (.long idB), .second, .val (.ref b1), .val (.ref b5), .unset, .unset, .unset] [(.ref rb), (.ref ra)])) _
  refine Jvm.RoadKit.acmp (g := (mkF m 84 #[.val (.int p0), .val (.long q1), .second, .val (.int p2), .val (.long q3), .second, .val (.int p4), .val (.ref ra), .val (.ref rb), .val (.int how), .val (.long idB), .second, .val (.ref b1), .val (.ref b5), .unset, .unset, .unset] [(.ref rb), (.ref ra)])) X7 hx rfl rfl rfl (pc0 := 84) (pc' := 87) (same := true) rfl (hb hby at_84) rfl (decide_eq_true (congrArg Value.ref ha84)) (by decide) (by decide) ?_
  show Steps p.tables e below (T7.setTop (mkF m 87 #[.val (.int p0), .val (.long q1), .second, .val (.int p2), .val (.long q3), .second, .val (.int p4), .val (.ref ra), .val (.ref rb), .val (.int how), .val (.long idB), .second, .val (.ref b1), .val (.ref b5), .unset, .unset, .unset] [])) _
  refine XS.lloadN X7.here hx rfl (hb hby at_87) rfl ?_
  show Steps p.tables e below (T7.setTop (mkF m 88 #[.val (.int p0), .val (.long q1), .second, .val (.int p2), .val (.long q3), .second, .val (.int p4), .val (.ref ra), .val (.ref rb), .val (.int how), .val (.long idB), .second, .val (.ref b1), .val (.ref b5), .unset, .unset, .unset] [(.long q1)])) _
  refine XS.lload X7.here hx rfl (hb hby at_88) rfl ?_
  show Steps p.tables e below (T7.setTop (mkF m 90 #[.val (.int p0), .val (.long q1), .second, .val (.int p2), .val (.long q3), .second, .val (.int p4), .val (.ref ra), .val (.ref rb), .val (.int how), .val (.long idB), .second, .val (.ref b1), .val (.ref b5), .unset, .unset, .unset] [(.long idB), (.long q1)])) _
  refine XS.lcmp X7.here hx rfl (hb hby at_90) rfl ?_
  show Steps p.tables e below (T7.setTop (mkF m 91 #[.val (.int p0), .val (.long q1), .second, .val (.int p2), .val (.long q3), .second, .val (.int p4), .val (.ref ra), .val (.ref rb), .val (.int how), .val (.long idB), .second, .val (.ref b1), .val (.ref b5), .unset, .unset, .unset] [(.int (lcmpW q1 idB))])) _
  refine XS.ifYes X7.here hx rfl (pc0 := 91) (pc' := 98) rfl (hb hby at_91) rfl ((if0 _ _).trans (feq (fun q => hc91 ((lw_eq q1 idB).mp q))).2) (by decide) (by decide) ?_
  show Steps p.tables e below (T7.setTop (mkF m 98 #[.val (.int p0), .val (.long q1), .second, .val (.int p2), .val (.long q3), .second, .val (.int p4), .val (.ref ra), .val (.ref rb), .val (.int how), .val (.long idB), .second, .val (.ref b1), .val (.ref b5), .unset, .unset, .unset] [])) _
  refine XS.iconst X7.here hx rfl (hb hby at_98) ?_
  show Steps p.tables e below (T7.setTop (mkF m 99 #[.val (.int p0), .val (.long q1), .second, .val (.int p2), .val (.long q3), .second, .val (.int p4), .val (.ref ra), .val (.ref rb), .val (.int how), .val (.long idB), .second, .val (.ref b1), .val (.ref b5), .unset, .unset, .unset] [(.int (0 : Int32))])) _
  refine XS.istore X7.here hx rfl (hb hby at_99) rfl (l' := #[.val (.int p0), .val (.long q1), .second, .val (.int p2), .val (.long q3), .second, .val (.int p4), .val (.ref ra), .val (.ref rb), .val (.int how), .val (.long idB), .second, .val (.ref b1), .val (.ref b5), .val (.int (0 : Int32)), .unset, .unset]) rfl ?_
  show Steps p.tables e below (T7.setTop (mkF m 101 #[.val (.int p0), .val (.long q1), .second, .val (.int p2), .val (.long q3), .second, .val (.int p4), .val (.ref ra), .val (.ref rb), .val (.int how), .val (.long idB), .second, .val (.ref b1), .val (.ref b5), .val (.int (0 : Int32)), .unset, .unset] [])) _
  refine XS.aload X7.here hx rfl (hb hby at_101) rfl rfl ?_
  show Steps p.tables e below (T7.setTop (mkF m 103 #[.val (.int p0), .val (.long q1), .second, .val (.int p2), .val (.long q3), .second, .val (.int p4), .val (.ref ra), .val (.ref rb), .val (.int how), .val (.long idB), .second, .val (.ref b1), .val (.ref b5), .val (.int (0 : Int32)), .unset, .unset] [(.ref b1)])) _
  refine XS.aload X7.here hx rfl (hb hby at_103) rfl rfl ?_
  show Steps p.tables e below (T7.setTop (mkF m 105 #[.val (.int p0), .val (.long q1), .second, .val (.int p2), .val (.long q3), .second, .val (.int p4), .val (.ref ra), .val (.ref rb), .val (.int how), .val (.long idB), .second, .val (.ref b1), .val (.ref b5), .val (.int (0 : Int32)), .unset, .unset] [(.ref b5), (.ref b1)])) _
  refine st9.trans ?_
  show Steps p.tables e below (T9.setTop (mkF m 108 #[.val (.int p0), .val (.long q1), .second, .val (.int p2), .val (.long q3), .second, .val (.int p4), .val (.ref ra), .val (.ref rb), .val (.int how), .val (.long idB), .second, .val (.ref b1), .val (.ref b5), .val (.int (0 : Int32)), .unset, .unset] [(.int (0 : Int32))])) _
  refine XS.iload X9.here hx rfl (hb hby at_108) rfl ?_
  show Steps p.tables e below (T9.setTop (mkF m 110 #[.val (.int p0), .val (.long q1), .second, .val (.int p2), .val (.long q3), .second, .val (.int p4), .val (.ref ra), .val (.ref rb), .val (.int how), .val (.long idB), .second, .val (.ref b1), .val (.ref b5), .val (.int (0 : Int32)), .unset, .unset] [(.int (0 : Int32)), (.int (0 : Int32))])) _
  refine XS.icmpNo X9.here hx rfl (hb hby at_110) rfl (teq (by decide)).2 ?_
  show Steps p.tables e below (T9.setTop (mkF m 113 #[.val (.int p0), .val (.long q1), .second, .val (.int p2), .val (.long q3), .second, .val (.int p4), .val (.ref ra), .val (.ref rb), .val (.int how), .val (.long idB), .second, .val (.ref b1), .val (.ref b5), .val (.int (0 : Int32)), .unset, .unset] [])) _
  refine XS.aload X9.here hx rfl (hb hby at_113) rfl rfl ?_
  show Steps p.tables e below (T9.setTop (mkF m 115 #[.val (.int p0), .val (.long q1), .second, .val (.int p2), .val (.long q3), .second, .val (.int p4), .val (.ref ra), .val (.ref rb), .val (.int how), .val (.long idB), .second, .val (.ref b1), .val (.ref b5), .val (.int (0 : Int32)), .unset, .unset] [(.ref b5)])) _
  refine XS.aload X9.here hx rfl (hb hby at_115) rfl rfl ?_
  show Steps p.tables e below (T9.setTop (mkF m 117 #[.val (.int p0), .val (.long q1), .second, .val (.int p2), .val (.long q3), .second, .val (.int p4), .val (.ref ra), .val (.ref rb), .val (.int how), .val (.long idB), .second, .val (.ref b1), .val (.ref b5), .val (.int (0 : Int32)), .unset, .unset] [(.ref b1), (.ref b5)])) _
  refine st10.trans ?_
  show Steps p.tables e below (T10.setTop (mkF m 120 #[.val (.int p0), .val (.long q1), .second, .val (.int p2), .val (.long q3), .second, .val (.int p4), .val (.ref ra), .val (.ref rb), .val (.int how), .val (.long idB), .second, .val (.ref b1), .val (.ref b5), .val (.int (0 : Int32)), .unset, .unset] [(.int (0 : Int32))])) _
  refine XS.iload X10.here hx rfl (hb hby at_120) rfl ?_
  show Steps p.tables e below (T10.setTop (mkF m 122 #[.val (.int p0), .val (.long q1), .second, .val (.int p2), .val (.long q3), .second, .val (.int p4), .val (.ref ra), .val (.ref rb), .val (.int how), .val (.long idB), .second, .val (.ref b1), .val (.ref b5), .val (.int (0 : Int32)), .unset, .unset] [(.int (0 : Int32)), (.int (0 : Int32))])) _
  refine XS.icmpNo X10.here hx rfl (hb hby at_122) rfl (teq (by decide)).2 ?_
  show Steps p.tables e below (T10.setTop (mkF m 125 #[.val (.int p0), .val (.long q1), .second, .val (.int p2), .val (.long q3), .second, .val (.int p4), .val (.ref ra), .val (.ref rb), .val (.int how), .val (.long idB), .second, .val (.ref b1), .val (.ref b5), .val (.int (0 : Int32)), .unset, .unset] [])) _
  refine XS.iconst X10.here hx rfl (hb hby at_125) ?_
  show Steps p.tables e below (T10.setTop (mkF m 126 #[.val (.int p0), .val (.long q1), .second, .val (.int p2), .val (.long q3), .second, .val (.int p4), .val (.ref ra), .val (.ref rb), .val (.int how), .val (.long idB), .second, .val (.ref b1), .val (.ref b5), .val (.int (0 : Int32)), .unset, .unset] [(.int (1 : Int32))])) _
  refine XS.goto X10.here hx rfl (pc0 := 126) (pc' := 130) rfl (hb hby at_126) (by decide) (by decide) ?_
  show Steps p.tables e below (T10.setTop (mkF m 130 #[.val (.int p0), .val (.long q1), .second, .val (.int p2), .val (.long q3), .second, .val (.int p4), .val (.ref ra), .val (.ref rb), .val (.int how), .val (.long idB), .second, .val (.ref b1), .val (.ref b5), .val (.int (0 : Int32)), .unset, .unset] [(.int (1 : Int32))])) _
  refine XS.istore X10.here hx rfl (hb hby at_130) rfl (l' := #[.val (.int p0), .val (.long q1), .second, .val (.int p2), .val (.long q3), .second, .val (.int p4), .val (.ref ra), .val (.ref rb), .val (.int how), .val (.long idB), .second, .val (.ref b1), .val (.ref b5), .val (.int (0 : Int32)), .val (.int (1 : Int32)), .unset]) rfl ?_
  show Steps p.tables e below (T10.setTop (mkF m 132 #[.val (.int p0), .val (.long q1), .second, .val (.int p2), .val (.long q3), .second, .val (.int p4), .val (.ref ra), .val (.ref rb), .val (.int how), .val (.long idB), .second, .val (.ref b1), .val (.ref b5), .val (.int (0 : Int32)), .val (.int (1 : Int32)), .unset] [])) _
  refine XS.iload X10.here hx rfl (hb hby at_132) rfl ?_
  show Steps p.tables e below (T10.setTop (mkF m 134 #[.val (.int p0), .val (.long q1), .second, .val (.int p2), .val (.long q3), .second, .val (.int p4), .val (.ref ra), .val (.ref rb), .val (.int how), .val (.long idB), .second, .val (.ref b1), .val (.ref b5), .val (.int (0 : Int32)), .val (.int (1 : Int32)), .unset] [(.int p4)])) _
  refine XS.bipush X10.here hx rfl (hb hby at_134) ?_
  show Steps p.tables e below (T10.setTop (mkF m 136 #[.val (.int p0), .val (.long q1), .second, .val (.int p2), .val (.long q3), .second, .val (.int p4), .val (.ref ra), .val (.ref rb), .val (.int how), .val (.long idB), .second, .val (.ref b1), .val (.ref b5), .val (.int (0 : Int32)), .val (.int (1 : Int32)), .unset] [(.int (8 : Int32)), (.int p4)])) _
  refine XS.iushr X10.here hx rfl (hb hby at_136) rfl ?_
  show Steps p.tables e below (T10.setTop (mkF m 137 #[.val (.int p0), .val (.long q1), .second, .val (.int p2), .val (.long q3), .second, .val (.int p4), .val (.ref ra), .val (.ref rb), .val (.int how), .val (.long idB), .second, .val (.ref b1), .val (.ref b5), .val (.int (0 : Int32)), .val (.int (1 : Int32)), .unset] [(.int ((p4.toUInt32 >>> ((8 : Int32) &&& 31).toUInt32).toInt32))])) _
  refine XS.iconst X10.here hx rfl (hb hby at_137) ?_
  show Steps p.tables e below (T10.setTop (mkF m 138 #[.val (.int p0), .val (.long q1), .second, .val (.int p2), .val (.long q3), .second, .val (.int p4), .val (.ref ra), .val (.ref rb), .val (.int how), .val (.long idB), .second, .val (.ref b1), .val (.ref b5), .val (.int (0 : Int32)), .val (.int (1 : Int32)), .unset] [(.int (3 : Int32)), (.int ((p4.toUInt32 >>> ((8 : Int32) &&& 31).toUInt32).toInt32))])) _
  refine XS.iand X10.here hx rfl (hb hby at_138) rfl ?_
  show Steps p.tables e below (T10.setTop (mkF m 139 #[.val (.int p0), .val (.long q1), .second, .val (.int p2), .val (.long q3), .second, .val (.int p4), .val (.ref ra), .val (.ref rb), .val (.int how), .val (.long idB), .second, .val (.ref b1), .val (.ref b5), .val (.int (0 : Int32)), .val (.int (1 : Int32)), .unset] [(.int (((p4.toUInt32 >>> ((8 : Int32) &&& 31).toUInt32).toInt32) &&& (3 : Int32)))])) _
  refine XS.istore X10.here hx rfl (hb hby at_139) rfl (l' := #[.val (.int p0), .val (.long q1), .second, .val (.int p2), .val (.long q3), .second, .val (.int p4), .val (.ref ra), .val (.ref rb), .val (.int how), .val (.long idB), .second, .val (.ref b1), .val (.ref b5), .val (.int (0 : Int32)), .val (.int (1 : Int32)), .val (.int (((p4.toUInt32 >>> ((8 : Int32) &&& 31).toUInt32).toInt32) &&& (3 : Int32)))]) rfl ?_
  show Steps p.tables e below (T10.setTop (mkF m 141 #[.val (.int p0), .val (.long q1), .second, .val (.int p2), .val (.long q3), .second, .val (.int p4), .val (.ref ra), .val (.ref rb), .val (.int how), .val (.long idB), .second, .val (.ref b1), .val (.ref b5), .val (.int (0 : Int32)), .val (.int (1 : Int32)), .val (.int (((p4.toUInt32 >>> ((8 : Int32) &&& 31).toUInt32).toInt32) &&& (3 : Int32)))] [])) _
  refine XS.iload X10.here hx rfl (hb hby at_141) rfl ?_
  show Steps p.tables e below (T10.setTop (mkF m 143 #[.val (.int p0), .val (.long q1), .second, .val (.int p2), .val (.long q3), .second, .val (.int p4), .val (.ref ra), .val (.ref rb), .val (.int how), .val (.long idB), .second, .val (.ref b1), .val (.ref b5), .val (.int (0 : Int32)), .val (.int (1 : Int32)), .val (.int (((p4.toUInt32 >>> ((8 : Int32) &&& 31).toUInt32).toInt32) &&& (3 : Int32)))] [(.int (((p4.toUInt32 >>> ((8 : Int32) &&& 31).toUInt32).toInt32) &&& (3 : Int32)))])) _
  refine XS.iconst X10.here hx rfl (hb hby at_143) ?_
  show Steps p.tables e below (T10.setTop (mkF m 144 #[.val (.int p0), .val (.long q1), .second, .val (.int p2), .val (.long q3), .second, .val (.int p4), .val (.ref ra), .val (.ref rb), .val (.int how), .val (.long idB), .second, .val (.ref b1), .val (.ref b5), .val (.int (0 : Int32)), .val (.int (1 : Int32)), .val (.int (((p4.toUInt32 >>> ((8 : Int32) &&& 31).toUInt32).toInt32) &&& (3 : Int32)))] [(.int (1 : Int32)), (.int (((p4.toUInt32 >>> ((8 : Int32) &&& 31).toUInt32).toInt32) &&& (3 : Int32)))])) _
  refine XS.icmpYes X10.here hx rfl (pc0 := 144) (pc' := 171) rfl (hb hby at_144) rfl (feq hc144).2 (by decide) (by decide) ?_
  show Steps p.tables e below (T10.setTop (mkF m 171 #[.val (.int p0), .val (.long q1), .second, .val (.int p2), .val (.long q3), .second, .val (.int p4), .val (.ref ra), .val (.ref rb), .val (.int how), .val (.long idB), .second, .val (.ref b1), .val (.ref b5), .val (.int (0 : Int32)), .val (.int (1 : Int32)), .val (.int (((p4.toUInt32 >>> ((8 : Int32) &&& 31).toUInt32).toInt32) &&& (3 : Int32)))] [])) _
  refine XS.iload X10.here hx rfl (hb hby at_171) rfl ?_
  show Steps p.tables e below (T10.setTop (mkF m 173 #[.val (.int p0), .val (.long q1), .second, .val (.int p2), .val (.long q3), .second, .val (.int p4), .val (.ref ra), .val (.ref rb), .val (.int how), .val (.long idB), .second, .val (.ref b1), .val (.ref b5), .val (.int (0 : Int32)), .val (.int (1 : Int32)), .val (.int (((p4.toUInt32 >>> ((8 : Int32) &&& 31).toUInt32).toInt32) &&& (3 : Int32)))] [(.int (((p4.toUInt32 >>> ((8 : Int32) &&& 31).toUInt32).toInt32) &&& (3 : Int32)))])) _
  refine XS.iconst X10.here hx rfl (hb hby at_173) ?_
  show Steps p.tables e below (T10.setTop (mkF m 174 #[.val (.int p0), .val (.long q1), .second, .val (.int p2), .val (.long q3), .second, .val (.int p4), .val (.ref ra), .val (.ref rb), .val (.int how), .val (.long idB), .second, .val (.ref b1), .val (.ref b5), .val (.int (0 : Int32)), .val (.int (1 : Int32)), .val (.int (((p4.toUInt32 >>> ((8 : Int32) &&& 31).toUInt32).toInt32) &&& (3 : Int32)))] [(.int (2 : Int32)), (.int (((p4.toUInt32 >>> ((8 : Int32) &&& 31).toUInt32).toInt32) &&& (3 : Int32)))])) _
  refine XS.icmpNo X10.here hx rfl (hb hby at_174) rfl (teq hc174).2 ?_
  show Steps p.tables e below (T10.setTop (mkF m 177 #[.val (.int p0), .val (.long q1), .second, .val (.int p2), .val (.long q3), .second, .val (.int p4), .val (.ref ra), .val (.ref rb), .val (.int how), .val (.long idB), .second, .val (.ref b1), .val (.ref b5), .val (.int (0 : Int32)), .val (.int (1 : Int32)), .val (.int (((p4.toUInt32 >>> ((8 : Int32) &&& 31).toUInt32).toInt32) &&& (3 : Int32)))] [])) _
  refine XS.iload X10.here hx rfl (hb hby at_177) rfl ?_
  show Steps p.tables e below (T10.setTop (mkF m 179 #[.val (.int p0), .val (.long q1), .second, .val (.int p2), .val (.long q3), .second, .val (.int p4), .val (.ref ra), .val (.ref rb), .val (.int how), .val (.long idB), .second, .val (.ref b1), .val (.ref b5), .val (.int (0 : Int32)), .val (.int (1 : Int32)), .val (.int (((p4.toUInt32 >>> ((8 : Int32) &&& 31).toUInt32).toInt32) &&& (3 : Int32)))] [(.int (1 : Int32))])) _
  refine XS.ifNo X10.here hx rfl (hb hby at_179) rfl ((if0 _ _).trans (feq (by decide)).1) ?_
  show Steps p.tables e below (T10.setTop (mkF m 182 #[.val (.int p0), .val (.long q1), .second, .val (.int p2), .val (.long q3), .second, .val (.int p4), .val (.ref ra), .val (.ref rb), .val (.int how), .val (.long idB), .second, .val (.ref b1), .val (.ref b5), .val (.int (0 : Int32)), .val (.int (1 : Int32)), .val (.int (((p4.toUInt32 >>> ((8 : Int32) &&& 31).toUInt32).toInt32) &&& (3 : Int32)))] [])) _
  refine XS.aload X10.here hx rfl (hb hby at_182) rfl rfl ?_
  show Steps p.tables e below (T10.setTop (mkF m 184 #[.val (.int p0), .val (.long q1), .second, .val (.int p2), .val (.long q3), .second, .val (.int p4), .val (.ref ra), .val (.ref rb), .val (.int how), .val (.long idB), .second, .val (.ref b1), .val (.ref b5), .val (.int (0 : Int32)), .val (.int (1 : Int32)), .val (.int (((p4.toUInt32 >>> ((8 : Int32) &&& 31).toUInt32).toInt32) &&& (3 : Int32)))] [(.ref b1)])) _
  refine XS.lloadN X10.here hx rfl (hb hby at_184) rfl ?_
  show Steps p.tables e below (T10.setTop (mkF m 185 #[.val (.int p0), .val (.long q1), .second, .val (.int p2), .val (.long q3), .second, .val (.int p4), .val (.ref ra), .val (.ref rb), .val (.int how), .val (.long idB), .second, .val (.ref b1), .val (.ref b5), .val (.int (0 : Int32)), .val (.int (1 : Int32)), .val (.int (((p4.toUInt32 >>> ((8 : Int32) &&& 31).toUInt32).toInt32) &&& (3 : Int32)))] [(.long q1), (.ref b1)])) _
  refine st11 _ ?_
  show Steps p.tables e below (T11.setTop (mkF m 188 #[.val (.int p0), .val (.long q1), .second, .val (.int p2), .val (.long q3), .second, .val (.int p4), .val (.ref ra), .val (.ref rb), .val (.int how), .val (.long idB), .second, .val (.ref b1), .val (.ref b5), .val (.int (0 : Int32)), .val (.int (1 : Int32)), .val (.int (((p4.toUInt32 >>> ((8 : Int32) &&& 31).toUInt32).toInt32) &&& (3 : Int32)))] [(.ref v11), (.ref b1)])) _
  refine st13.trans ?_
  show Steps p.tables e below (T13.setTop (mkF m 191 #[.val (.int p0), .val (.long q1), .second, .val (.int p2), .val (.long q3), .second, .val (.int p4), .val (.ref ra), .val (.ref rb), .val (.int how), .val (.long idB), .second, .val (.ref b1), .val (.ref b5), .val (.int (0 : Int32)), .val (.int (1 : Int32)), .val (.int (((p4.toUInt32 >>> ((8 : Int32) &&& 31).toUInt32).toInt32) &&& (3 : Int32)))] [(.int (0 : Int32))])) _
  refine XS.ifNo X13.here hx rfl (hb hby at_191) rfl ((if0 _ _).trans (teq (by decide)).2) ?_
  show Steps p.tables e below (T13.setTop (mkF m 194 #[.val (.int p0), .val (.long q1), .second, .val (.int p2), .val (.long q3), .second, .val (.int p4), .val (.ref ra), .val (.ref rb), .val (.int how), .val (.long idB), .second, .val (.ref b1), .val (.ref b5), .val (.int (0 : Int32)), .val (.int (1 : Int32)), .val (.int (((p4.toUInt32 >>> ((8 : Int32) &&& 31).toUInt32).toInt32) &&& (3 : Int32)))] [])) _
  refine XS.iconst X13.here hx rfl (hb hby at_194) ?_
  show Steps p.tables e below (T13.setTop (mkF m 195 #[.val (.int p0), .val (.long q1), .second, .val (.int p2), .val (.long q3), .second, .val (.int p4), .val (.ref ra), .val (.ref rb), .val (.int how), .val (.long idB), .second, .val (.ref b1), .val (.ref b5), .val (.int (0 : Int32)), .val (.int (1 : Int32)), .val (.int (((p4.toUInt32 >>> ((8 : Int32) &&& 31).toUInt32).toInt32) &&& (3 : Int32)))] [(.int (1 : Int32))])) _
  refine XS.goto X13.here hx rfl (pc0 := 195) (pc' := 199) rfl (hb hby at_195) (by decide) (by decide) ?_
  show Steps p.tables e below (T13.setTop (mkF m 199 #[.val (.int p0), .val (.long q1), .second, .val (.int p2), .val (.long q3), .second, .val (.int p4), .val (.ref ra), .val (.ref rb), .val (.int how), .val (.long idB), .second, .val (.ref b1), .val (.ref b5), .val (.int (0 : Int32)), .val (.int (1 : Int32)), .val (.int (((p4.toUInt32 >>> ((8 : Int32) &&& 31).toUInt32).toInt32) &&& (3 : Int32)))] [(.int (1 : Int32))])) _
  refine XS.istore X13.here hx rfl (hb hby at_199) rfl (l' := #[.val (.int p0), .val (.long q1), .second, .val (.int p2), .val (.long q3), .second, .val (.int p4), .val (.ref ra), .val (.ref rb), .val (.int how), .val (.long idB), .second, .val (.ref b1), .val (.ref b5), .val (.int (0 : Int32)), .val (.int (1 : Int32)), .val (.int (((p4.toUInt32 >>> ((8 : Int32) &&& 31).toUInt32).toInt32) &&& (3 : Int32)))]) rfl ?_
  show Steps p.tables e below (T13.setTop (mkF m 201 #[.val (.int p0), .val (.long q1), .second, .val (.int p2), .val (.long q3), .second, .val (.int p4), .val (.ref ra), .val (.ref rb), .val (.int how), .val (.long idB), .second, .val (.ref b1), .val (.ref b5), .val (.int (0 : Int32)), .val (.int (1 : Int32)), .val (.int (((p4.toUInt32 >>> ((8 : Int32) &&& 31).toUInt32).toInt32) &&& (3 : Int32)))] [])) _
  refine XS.goto X13.here hx rfl (pc0 := 201) (pc' := 232) rfl (hb hby at_201) (by decide) (by decide) ?_
  show Steps p.tables e below (T13.setTop (mkF m 232 #[.val (.int p0), .val (.long q1), .second, .val (.int p2), .val (.long q3), .second, .val (.int p4), .val (.ref ra), .val (.ref rb), .val (.int how), .val (.long idB), .second, .val (.ref b1), .val (.ref b5), .val (.int (0 : Int32)), .val (.int (1 : Int32)), .val (.int (((p4.toUInt32 >>> ((8 : Int32) &&& 31).toUInt32).toInt32) &&& (3 : Int32)))] [])) _
  refine XS.iload X13.here hx rfl (hb hby at_232) rfl ?_
  show Steps p.tables e below (T13.setTop (mkF m 234 #[.val (.int p0), .val (.long q1), .second, .val (.int p2), .val (.long q3), .second, .val (.int p4), .val (.ref ra), .val (.ref rb), .val (.int how), .val (.long idB), .second, .val (.ref b1), .val (.ref b5), .val (.int (0 : Int32)), .val (.int (1 : Int32)), .val (.int (((p4.toUInt32 >>> ((8 : Int32) &&& 31).toUInt32).toInt32) &&& (3 : Int32)))] [(.int (1 : Int32))])) _
  exact retN X13 hx (t := .boolean) hret (by simp) (hb hby at_234) hr
set_option maxRecDepth 65536 in
set_option maxHeartbeats 40000000 in
theorem tail_tftf (l : Launch) (Z : State) (a0 : Array Value) (hw : ∀ d ∈ tables_1, d.before a0 Z = true) (p0 : Int32) (q1 : Int64) (p2 : Int32) (q3 : Int64) (p4 : Int32) (ra : Addr) (rb : Addr) (how : Int32) (idB : Int64) (ca : Addr) (cl : Cell) (h0 : Heap) (n0 : Nat) (Z0 : n0 ≤ h0.size) (E_ra : Exa Z h0 ra "com/example/lessor/lessor/namespace/FileType") (E_rb : Exa Z h0 rb "com/example/lessor/lessor/namespace/FileType") (ha84 : ra = rb) (hc91 : q1 = idB) (hc144 : ¬ ((((p4.toUInt32 >>> ((8 : Int32) &&& 31).toUInt32).toInt32) &&& (3 : Int32)) = (1 : Int32))) (hc174 : (((p4.toUInt32 >>> ((8 : Int32) &&& 31).toUInt32).toInt32) &&& (3 : Int32)) = (2 : Int32)) (hC : Cache Z h0 ca cl)
    {p : Program} {e : Env} {s : State} {m : MethodId} {args : Array Value} {below : List Frame} {meth : Method} {c : Code} {s₁ : State} {locs : List Loc} (X0 : Stand p l e room_1 s m args below meth c s₁ locs 0 0) (N0 : Fr n0 locs) (hx : p.tables.exec = Jvm.exec) (hZ : Z.Warmed39 s.vm) (hby : c.code = code) (hml : c.maxLocals = 17) (hown : s.vm.findClass "com/example/lessor/lessor/namespace/BindingEqualsPinLaw" = some m.cls) (hret : meth.sig.returnType = ret) (hlk : meth.locks = false) (e0 : s₁.heap = h0) :
    ∃ s₂ o, Steps p.tables e below (s₁.setTop (mkF m 55 #[.val (.int p0), .val (.long q1), .second, .val (.int p2), .val (.long q3), .second, .val (.int p4), .val (.ref ra), .val (.ref rb), .val (.int how), .val (.long idB), .second, .unset, .unset, .unset, .unset, .unset] [])) s₂ ∧ s₂.status = .running ∧ Ended s₂ below o ∧ (∃ v L, o = .returned v ∧ (v = some (.int (1 : Int32)) ∧ Fr n0 L) ∧ FrameEnd s o s₂ L room_1.cells room_1.slots) := by
  obtain ⟨T1, h1, X1, e1, E1, A1, D1, -, st1⟩ := newO X0 hx hZ hown (hw _ (List.mem_of_getElem? (i := 9) rfl)) (hw _ (List.mem_of_getElem? (i := 10) rfl)) (hw _ (List.mem_of_getElem? (i := 11) rfl)) e0 (g := (mkF m 55 #[.val (.int p0), .val (.long q1), .second, .val (.int p2), .val (.long q3), .second, .val (.int p4), .val (.ref ra), .val (.ref rb), .val (.int how), .val (.long idB), .second, .unset, .unset, .unset, .unset, .unset] [])) rfl (hb hby at_55) (by decide) (by decide)
  obtain ⟨b1, g1⟩ : ∃ z, z = h0.size := ⟨_, rfl⟩
  rw [← g1] at A1 D1 st1
  have g_b1 : n0 ≤ b1 := Nat.le_trans Z0 (Nat.le_of_eq g1.symm)
  have sz_b1 : h0.size ≤ b1 := Nat.le_trans (Keep.refl h0 []).1 (Nat.le_of_eq g1.symm)
  have E_b1 := A1
  have F_type_b1 : Fld Z h1 b1 "com/example/lessor/lessor/namespace/Binding" "type" "Lcom/example/lessor/lessor/namespace/FileType;" .null := D1 (Or.inr (hw _ (List.mem_of_getElem? (i := 25) rfl))) (ty := (.object "com/example/lessor/lessor/namespace/FileType")) (by decide)
  have F_identifier_b1 : Fld Z h1 b1 "com/example/lessor/lessor/namespace/Binding" "identifier" "J" (.long (0 : Int64)) := D1 (Or.inr (hw _ (List.mem_of_getElem? (i := 27) rfl))) (ty := .long) (by decide)
  have K2 : Keep h0 h1 [] := (Keep.refl h0 []).ext E1
  obtain ⟨_, _, ⟨T3, L3, k3, n3⟩, -, X3, ⟨Lc3, hQ3, l3, y3, z3⟩, st3⟩ := X1.specialBack hx (y := (⟨"com/example/lessor/lessor/namespace/Binding", "<init>", "(Lcom/example/lessor/lessor/namespace/FileType;J)V"⟩ : MethodName)) rfl hown (mvT hZ (hw _ (List.mem_of_getElem? (i := 12) rfl))) (mvT hZ (hw _ (List.mem_of_getElem? (i := 13) rfl))) (mvT hZ (hw _ (List.mem_of_getElem? (i := 14) rfl))) (by decide) (backOf (W := 1) (rmBinding l Z a0 hw [] b1 ra q1 .null (.long (0 : Int64)) h1 n0 (Nat.le_trans Z0 K2.1) E_b1 (E_ra.ext E1) F_type_b1 g_b1 F_identifier_b1) hZ (hw _ (List.mem_of_getElem? (i := 14) rfl)) (hw _ (List.mem_of_getElem? (i := 11) rfl)) (by decide) (by decide)) (g := (mkF m 62 #[.val (.int p0), .val (.long q1), .second, .val (.int p2), .val (.long q3), .second, .val (.int p4), .val (.ref ra), .val (.ref rb), .val (.int how), .val (.long idB), .second, .unset, .unset, .unset, .unset, .unset] [(.long q1), (.ref ra), (.ref b1), (.ref b1)])) rfl (by rw [hml]; rfl) (Steps.refl _) (a := b1) (argsL := [(.ref ra), (.long q1)]) (rest := [(.ref b1)]) (lenOf pd__Lcom_example_lessor_lessor_namespace_FileType_J_V rfl) rfl (by show 2 * 0 + _ ≤ _; exact Nat.le_of_eq rfl) (hb hby at_62) (fun _ _ => ⟨rfl, e1, (by decide : 1 + 0 ≤ _), (by decide : 2 + 0 ≤ _)⟩)
  dsimp only [Pt.U, Pt.locs, Pt.cells, Pt.slots] at X3 l3 y3 z3 st3 hQ3
  subst l3 y3 z3
  obtain ⟨rfl, N3q, K3, E3, Ff3, Fd3⟩ := hQ3
  have K4 : Keep h0 T3.heap [] := K2.trans K3 (allS (P := fun x => x ∈ [] ∨ h0.size ≤ x) (Or.inr sz_b1) all0)
  have N3 := Fr.app N0 N3q
  obtain ⟨T5, h5, X5, e5, E5, A5, D5, -, st5⟩ := newO X3 hx hZ hown (hw _ (List.mem_of_getElem? (i := 9) rfl)) (hw _ (List.mem_of_getElem? (i := 10) rfl)) (hw _ (List.mem_of_getElem? (i := 11) rfl)) rfl (g := (mkF m 67 #[.val (.int p0), .val (.long q1), .second, .val (.int p2), .val (.long q3), .second, .val (.int p4), .val (.ref ra), .val (.ref rb), .val (.int how), .val (.long idB), .second, .val (.ref b1), .unset, .unset, .unset, .unset] [])) rfl (hb hby at_67) (by decide) (by decide)
  obtain ⟨b5, g5⟩ : ∃ z, z = T3.heap.size := ⟨_, rfl⟩
  rw [← g5] at A5 D5 st5
  have g_b5 : n0 ≤ b5 := Nat.le_trans (Nat.le_trans Z0 K4.1) (Nat.le_of_eq g5.symm)
  have sz_b5 : h0.size ≤ b5 := Nat.le_trans K4.1 (Nat.le_of_eq g5.symm)
  have E_b5 := A5
  have F_type_b5 : Fld Z h5 b5 "com/example/lessor/lessor/namespace/Binding" "type" "Lcom/example/lessor/lessor/namespace/FileType;" .null := D5 (Or.inr (hw _ (List.mem_of_getElem? (i := 25) rfl))) (ty := (.object "com/example/lessor/lessor/namespace/FileType")) (by decide)
  have F_identifier_b5 : Fld Z h5 b5 "com/example/lessor/lessor/namespace/Binding" "identifier" "J" (.long (0 : Int64)) := D5 (Or.inr (hw _ (List.mem_of_getElem? (i := 27) rfl))) (ty := .long) (by decide)
  have K6 : Keep h0 h5 [] := K4.ext E5
  obtain ⟨_, _, ⟨T7, L7, k7, n7⟩, -, X7, ⟨Lc7, hQ7, l7, y7, z7⟩, st7⟩ := X5.specialBack hx (y := (⟨"com/example/lessor/lessor/namespace/Binding", "<init>", "(Lcom/example/lessor/lessor/namespace/FileType;J)V"⟩ : MethodName)) rfl hown (mvT hZ (hw _ (List.mem_of_getElem? (i := 12) rfl))) (mvT hZ (hw _ (List.mem_of_getElem? (i := 13) rfl))) (mvT hZ (hw _ (List.mem_of_getElem? (i := 14) rfl))) (by decide) (backOf (W := 1) (rmBinding l Z a0 hw [] b5 rb idB .null (.long (0 : Int64)) h5 n0 (Nat.le_trans Z0 K6.1) E_b5 (((E_rb.ext E1).keep K3).ext E5) F_type_b5 g_b5 F_identifier_b5) hZ (hw _ (List.mem_of_getElem? (i := 14) rfl)) (hw _ (List.mem_of_getElem? (i := 11) rfl)) (by decide) (by decide)) (g := (mkF m 75 #[.val (.int p0), .val (.long q1), .second, .val (.int p2), .val (.long q3), .second, .val (.int p4), .val (.ref ra), .val (.ref rb), .val (.int how), .val (.long idB), .second, .val (.ref b1), .unset, .unset, .unset, .unset] [(.long idB), (.ref rb), (.ref b5), (.ref b5)])) rfl (by rw [hml]; rfl) (Steps.refl _) (a := b5) (argsL := [(.ref rb), (.long idB)]) (rest := [(.ref b5)]) (lenOf pd__Lcom_example_lessor_lessor_namespace_FileType_J_V rfl) rfl (by show 2 * 0 + _ ≤ _; exact Nat.le_of_eq rfl) (hb hby at_75) (fun _ _ => ⟨rfl, e5, (by decide : 2 + 0 ≤ _), (by decide : 4 + 0 ≤ _)⟩)
  dsimp only [Pt.U, Pt.locs, Pt.cells, Pt.slots] at X7 l7 y7 z7 st7 hQ7
  subst l7 y7 z7
  obtain ⟨rfl, N7q, K7, E7, Ff7, Fd7⟩ := hQ7
  have K8 : Keep h0 T7.heap [] := K6.trans K7 (allS (P := fun x => x ∈ [] ∨ h0.size ≤ x) (Or.inr sz_b5) all0)
  have N7 := Fr.app N3 N7q
  have ne_b1_b5 : b1 ≠ b5 := Nat.ne_of_lt (Nat.lt_of_lt_of_le E3.lt (Nat.le_of_eq g5.symm))
  obtain ⟨cq9, kq9, q9a, q9b, q9c⟩ := isOf hZ rfl ((E3.ext E5).keep K7)
  obtain ⟨_, _, ⟨T9, L9, k9, n9⟩, -, X9, ⟨Lc9, hQ9, l9, y9, z9⟩, st9⟩ := X7.virtualBack hx (y := (⟨"com/example/lessor/lessor/namespace/Binding", "equals", "(Ljava/lang/Object;)Z"⟩ : MethodName)) (z := (⟨"com/example/lessor/lessor/namespace/Binding", "equals", "(Ljava/lang/Object;)Z"⟩ : MethodName)) hown (mvT hZ (hw _ (List.mem_of_getElem? (i := 28) rfl))) (mvT hZ (hw _ (List.mem_of_getElem? (i := 29) rfl))) (notFace_of_selects (args := #[]) (mvT hZ (hw _ (List.mem_of_getElem? (i := 31) rfl)))) (mvT hZ (hw _ (List.mem_of_getElem? (i := 31) rfl))) (mvT hZ (hw _ (List.mem_of_getElem? (i := 30) rfl))) (by decide) (backOf (W := 0) (rmEq_tf l Z a0 hw [] b1 b5 ra rb q1 idB T7.heap n0 (Nat.le_trans Z0 K8.1) E7 ((Ff3.ext E5).keep K7 (ninS ne_b1_b5 nin0)) Ff7 ha84 ((Fd3.ext E5).keep K7 (ninS ne_b1_b5 nin0)) Fd7 hc91) hZ (hw _ (List.mem_of_getElem? (i := 32) rfl)) (hw _ (List.mem_of_getElem? (i := 11) rfl)) (by decide) (by decide)) q9a q9c (g := (mkF m 105 #[.val (.int p0), .val (.long q1), .second, .val (.int p2), .val (.long q3), .second, .val (.int p4), .val (.ref ra), .val (.ref rb), .val (.int how), .val (.long idB), .second, .val (.ref b1), .val (.ref b5), .val (.int (1 : Int32)), .unset, .unset] [(.ref b5), (.ref b1)])) rfl (by rw [hml]; rfl) (Steps.refl _) (argsL := [(.ref b5)]) (rest := []) (lenOf pd__Ljava_lang_Object__Z rfl) rfl (by show 2 * 0 + _ ≤ _; exact Nat.le_of_eq rfl) (hb hby at_105) (fun _ _ => ⟨rfl, rfl, (by decide : 2 + 0 ≤ _), (by decide : 4 + 0 ≤ _)⟩)
  dsimp only [Pt.U, Pt.locs, Pt.cells, Pt.slots] at X9 l9 y9 z9 st9 hQ9
  subst l9 y9 z9
  obtain ⟨rfl, N9q, e9⟩ := hQ9
  have N9 := Fr.app N7 N9q
  obtain ⟨cq10, kq10, q10a, q10b, q10c⟩ := isOf hZ e9 E7
  obtain ⟨_, _, ⟨T10, L10, k10, n10⟩, -, X10, ⟨Lc10, hQ10, l10, y10, z10⟩, st10⟩ := X9.virtualBack hx (y := (⟨"com/example/lessor/lessor/namespace/Binding", "equals", "(Ljava/lang/Object;)Z"⟩ : MethodName)) (z := (⟨"com/example/lessor/lessor/namespace/Binding", "equals", "(Ljava/lang/Object;)Z"⟩ : MethodName)) hown (mvT hZ (hw _ (List.mem_of_getElem? (i := 28) rfl))) (mvT hZ (hw _ (List.mem_of_getElem? (i := 29) rfl))) (notFace_of_selects (args := #[]) (mvT hZ (hw _ (List.mem_of_getElem? (i := 31) rfl)))) (mvT hZ (hw _ (List.mem_of_getElem? (i := 31) rfl))) (mvT hZ (hw _ (List.mem_of_getElem? (i := 30) rfl))) (by decide) (backOf (W := 0) (rmEq_tf l Z a0 hw [] b5 b1 rb ra idB q1 T7.heap n0 (Nat.le_trans Z0 K8.1) ((E3.ext E5).keep K7) Ff7 ((Ff3.ext E5).keep K7 (ninS ne_b1_b5 nin0)) (Eq.symm ha84) Fd7 ((Fd3.ext E5).keep K7 (ninS ne_b1_b5 nin0)) (Eq.symm hc91)) hZ (hw _ (List.mem_of_getElem? (i := 32) rfl)) (hw _ (List.mem_of_getElem? (i := 11) rfl)) (by decide) (by decide)) q10a q10c (g := (mkF m 117 #[.val (.int p0), .val (.long q1), .second, .val (.int p2), .val (.long q3), .second, .val (.int p4), .val (.ref ra), .val (.ref rb), .val (.int how), .val (.long idB), .second, .val (.ref b1), .val (.ref b5), .val (.int (1 : Int32)), .unset, .unset] [(.ref b1), (.ref b5)])) rfl (by rw [hml]; rfl) (Steps.refl _) (argsL := [(.ref b1)]) (rest := []) (lenOf pd__Ljava_lang_Object__Z rfl) rfl (by show 2 * 0 + _ ≤ _; exact Nat.le_of_eq rfl) (hb hby at_117) (fun _ _ => ⟨rfl, e9, (by decide : 2 + 0 ≤ _), (by decide : 4 + 0 ≤ _)⟩)
  dsimp only [Pt.U, Pt.locs, Pt.cells, Pt.slots] at X10 l10 y10 z10 st10 hQ10
  subst l10 y10 z10
  obtain ⟨rfl, N10q, e10⟩ := hQ10
  have N10 := Fr.app N9 N10q
  obtain ⟨_, _, ⟨T11, L11, k11, n11⟩, -, X11, ⟨Lc11, hQ11, l11, y11, z11⟩, st11⟩ := Jvm.LawKit.callS X10 hx (y := (⟨"java/lang/Long", "valueOf", "(J)Ljava/lang/Long;"⟩ : MethodName)) hown (mvT hZ (hw _ (List.mem_of_getElem? (i := 35) rfl))) (mvT hZ (hw _ (List.mem_of_getElem? (i := 36) rfl))) (mvT hZ (hw _ (List.mem_of_getElem? (i := 37) rfl))) (mvT hZ (hw _ (List.mem_of_getElem? (i := 38) rfl))) (by decide) (backOf (W := 1) (own_vo l Z a0 hw [] q1 ca cl T7.heap n0 (Nat.le_trans Z0 K8.1) (hC.keep K8)) hZ (hw _ (List.mem_of_getElem? (i := 38) rfl)) (hw _ (List.mem_of_getElem? (i := 37) rfl)) (by decide) (by decide)) (g := (mkF m 185 #[.val (.int p0), .val (.long q1), .second, .val (.int p2), .val (.long q3), .second, .val (.int p4), .val (.ref ra), .val (.ref rb), .val (.int how), .val (.long idB), .second, .val (.ref b1), .val (.ref b5), .val (.int (1 : Int32)), .val (.int (1 : Int32)), .val (.int (((p4.toUInt32 >>> ((8 : Int32) &&& 31).toUInt32).toInt32) &&& (3 : Int32)))] [(.long q1), (.ref b1)])) rfl (by rw [hml]; rfl) (argsL := [(.long q1)]) (rest := [(.ref b1)]) (lenOf pd__J_Ljava_lang_Long_ rfl) rfl (by show 2 * 0 + _ ≤ _; exact Nat.le_of_eq rfl) (hb hby at_185) (fun _ _ => ⟨rfl, e10, (by decide : 2 + 1 ≤ _), (by decide : 4 + 1 ≤ _)⟩)
  dsimp only [Pt.U, Pt.locs, Pt.cells, Pt.slots] at X11 l11 y11 z11 st11 hQ11
  subst l11 y11 z11
  obtain ⟨v11, rfl, N11q, K11, E11⟩ := hQ11
  have K12 : Keep h0 T11.heap [] := K8.trans K11 all0
  have N11 := Fr.app N10 N11q
  obtain ⟨cq13, kq13, q13a, q13b, q13c⟩ := isOf hZ rfl (((E3.ext E5).keep K7).keep K11)
  obtain ⟨_, _, ⟨T13, L13, k13, n13⟩, -, X13, ⟨Lc13, hQ13, l13, y13, z13⟩, st13⟩ := X11.virtualBack hx (y := (⟨"com/example/lessor/lessor/namespace/Binding", "equals", "(Ljava/lang/Object;)Z"⟩ : MethodName)) (z := (⟨"com/example/lessor/lessor/namespace/Binding", "equals", "(Ljava/lang/Object;)Z"⟩ : MethodName)) hown (mvT hZ (hw _ (List.mem_of_getElem? (i := 28) rfl))) (mvT hZ (hw _ (List.mem_of_getElem? (i := 29) rfl))) (notFace_of_selects (args := #[]) (mvT hZ (hw _ (List.mem_of_getElem? (i := 31) rfl)))) (mvT hZ (hw _ (List.mem_of_getElem? (i := 31) rfl))) (mvT hZ (hw _ (List.mem_of_getElem? (i := 30) rfl))) (by decide) (backOf (W := 0) (rmEq_long l Z a0 hw [] b1 v11 T11.heap n0 (Nat.le_trans Z0 K12.1) E11) hZ (hw _ (List.mem_of_getElem? (i := 32) rfl)) (hw _ (List.mem_of_getElem? (i := 11) rfl)) (by decide) (by decide)) q13a q13c (g := (mkF m 188 #[.val (.int p0), .val (.long q1), .second, .val (.int p2), .val (.long q3), .second, .val (.int p4), .val (.ref ra), .val (.ref rb), .val (.int how), .val (.long idB), .second, .val (.ref b1), .val (.ref b5), .val (.int (1 : Int32)), .val (.int (1 : Int32)), .val (.int (((p4.toUInt32 >>> ((8 : Int32) &&& 31).toUInt32).toInt32) &&& (3 : Int32)))] [(.ref v11), (.ref b1)])) rfl (by rw [hml]; rfl) (Steps.refl _) (argsL := [(.ref v11)]) (rest := []) (lenOf pd__Ljava_lang_Object__Z rfl) rfl (by show 2 * 0 + _ ≤ _; exact Nat.le_of_eq rfl) (hb hby at_188) (fun _ _ => ⟨rfl, rfl, (by decide : 3 + 0 ≤ _), (by decide : 5 + 0 ≤ _)⟩)
  dsimp only [Pt.U, Pt.locs, Pt.cells, Pt.slots] at X13 l13 y13 z13 st13 hQ13
  subst l13 y13 z13
  obtain ⟨rfl, N13q, e13⟩ := hQ13
  have N13 := Fr.app N11 N13q
  obtain ⟨fs, hr, hrun, hended, hW, hsame⟩ := X13.leave (v := some (.int (1 : Int32))) (fun h => by rw [hret] at h; cases h)
  refine ⟨_, _, ?_, hrun, hended, _, _, rfl, ⟨rfl, N13⟩, ⟨_, rfl⟩, hW, hsame.mono (by decide) (by decide)⟩
  show Steps p.tables e below (s₁.setTop (mkF m 55 #[.val (.int p0), .val (.long q1), .second, .val (.int p2), .val (.long q3), .second, .val (.int p4), .val (.ref ra), .val (.ref rb), .val (.int how), .val (.long idB), .second, .unset, .unset, .unset, .unset, .unset] [])) _
  refine st1 _ ?_
  show Steps p.tables e below (T1.setTop (mkF m 58 #[.val (.int p0), .val (.long q1), .second, .val (.int p2), .val (.long q3), .second, .val (.int p4), .val (.ref ra), .val (.ref rb), .val (.int how), .val (.long idB), .second, .unset, .unset, .unset, .unset, .unset] [(.ref b1)])) _
  refine XS.dup X1.here hx rfl (hb hby at_58) rfl rfl ?_
  show Steps p.tables e below (T1.setTop (mkF m 59 #[.val (.int p0), .val (.long q1), .second, .val (.int p2), .val (.long q3), .second, .val (.int p4), .val (.ref ra), .val (.ref rb), .val (.int how), .val (.long idB), .second, .unset, .unset, .unset, .unset, .unset] [(.ref b1), (.ref b1)])) _
  refine XS.aload X1.here hx rfl (hb hby at_59) rfl rfl ?_
  show Steps p.tables e below (T1.setTop (mkF m 61 #[.val (.int p0), .val (.long q1), .second, .val (.int p2), .val (.long q3), .second, .val (.int p4), .val (.ref ra), .val (.ref rb), .val (.int how), .val (.long idB), .second, .unset, .unset, .unset, .unset, .unset] [(.ref ra), (.ref b1), (.ref b1)])) _
  refine XS.lloadN X1.here hx rfl (hb hby at_61) rfl ?_
  show Steps p.tables e below (T1.setTop (mkF m 62 #[.val (.int p0), .val (.long q1), .second, .val (.int p2), .val (.long q3), .second, .val (.int p4), .val (.ref ra), .val (.ref rb), .val (.int how), .val (.long idB), .second, .unset, .unset, .unset, .unset, .unset] [(.long q1), (.ref ra), (.ref b1), (.ref b1)])) _
  refine st3.trans ?_
  show Steps p.tables e below (T3.setTop (mkF m 65 #[.val (.int p0), .val (.long q1), .second, .val (.int p2), .val (.long q3), .second, .val (.int p4), .val (.ref ra), .val (.ref rb), .val (.int how), .val (.long idB), .second, .unset, .unset, .unset, .unset, .unset] [(.ref b1)])) _
  refine XS.astore X3.here hx rfl (hb hby at_65) rfl rfl (l' := #[.val (.int p0), .val (.long q1), .second, .val (.int p2), .val (.long q3), .second, .val (.int p4), .val (.ref ra), .val (.ref rb), .val (.int how), .val (.long idB), .second, .val (.ref b1), .unset, .unset, .unset, .unset]) rfl ?_
  show Steps p.tables e below (T3.setTop (mkF m 67 #[.val (.int p0), .val (.long q1), .second, .val (.int p2), .val (.long q3), .second, .val (.int p4), .val (.ref ra), .val (.ref rb), .val (.int how), .val (.long idB), .second, .val (.ref b1), .unset, .unset, .unset, .unset] [])) _
  refine st5 _ ?_
  show Steps p.tables e below (T5.setTop (mkF m 70 #[.val (.int p0), .val (.long q1), .second, .val (.int p2), .val (.long q3), .second, .val (.int p4), .val (.ref ra), .val (.ref rb), .val (.int how), .val (.long idB), .second, .val (.ref b1), .unset, .unset, .unset, .unset] [(.ref b5)])) _
  refine XS.dup X5.here hx rfl (hb hby at_70) rfl rfl ?_
  show Steps p.tables e below (T5.setTop (mkF m 71 #[.val (.int p0), .val (.long q1), .second, .val (.int p2), .val (.long q3), .second, .val (.int p4), .val (.ref ra), .val (.ref rb), .val (.int how), .val (.long idB), .second, .val (.ref b1), .unset, .unset, .unset, .unset] [(.ref b5), (.ref b5)])) _
  refine XS.aload X5.here hx rfl (hb hby at_71) rfl rfl ?_
  show Steps p.tables e below (T5.setTop (mkF m 73 #[.val (.int p0), .val (.long q1), .second, .val (.int p2), .val (.long q3), .second, .val (.int p4), .val (.ref ra), .val (.ref rb), .val (.int how), .val (.long idB), .second, .val (.ref b1), .unset, .unset, .unset, .unset] [(.ref rb), (.ref b5), (.ref b5)])) _
  refine XS.lload X5.here hx rfl (hb hby at_73) rfl ?_
  show Steps p.tables e below (T5.setTop (mkF m 75 #[.val (.int p0), .val (.long q1), .second, .val (.int p2), .val (.long q3), .second, .val (.int p4), .val (.ref ra), .val (.ref rb), .val (.int how), .val (.long idB), .second, .val (.ref b1), .unset, .unset, .unset, .unset] [(.long idB), (.ref rb), (.ref b5), (.ref b5)])) _
  refine st7.trans ?_
  show Steps p.tables e below (T7.setTop (mkF m 78 #[.val (.int p0), .val (.long q1), .second, .val (.int p2), .val (.long q3), .second, .val (.int p4), .val (.ref ra), .val (.ref rb), .val (.int how), .val (.long idB), .second, .val (.ref b1), .unset, .unset, .unset, .unset] [(.ref b5)])) _
  refine XS.astore X7.here hx rfl (hb hby at_78) rfl rfl (l' := #[.val (.int p0), .val (.long q1), .second, .val (.int p2), .val (.long q3), .second, .val (.int p4), .val (.ref ra), .val (.ref rb), .val (.int how), .val (.long idB), .second, .val (.ref b1), .val (.ref b5), .unset, .unset, .unset]) rfl ?_
  show Steps p.tables e below (T7.setTop (mkF m 80 #[.val (.int p0), .val (.long q1), .second, .val (.int p2), .val (.long q3), .second, .val (.int p4), .val (.ref ra), .val (.ref rb), .val (.int how), .val (.long idB), .second, .val (.ref b1), .val (.ref b5), .unset, .unset, .unset] [])) _
  refine XS.aload X7.here hx rfl (hb hby at_80) rfl rfl ?_
  show Steps p.tables e below (T7.setTop (mkF m 82 #[.val (.int p0), .val (.long q1), .second, .val (.int p2), .val (.long q3), .second, .val (.int p4), .val (.ref ra), .val (.ref rb), .val (.int how), .val (.long idB), .second, .val (.ref b1), .val (.ref b5), .unset, .unset, .unset] [(.ref ra)])) _
  refine XS.aload X7.here hx rfl (hb hby at_82) rfl rfl ?_
  show Steps p.tables e below (T7.setTop (mkF m 84 #[.val (.int p0), .val (.long q1), .second, .val (.int p2), .val (.long q3), .second, .val (.int p4), .val (.ref ra), .val (.ref rb), .val (.int how), .val (.long idB), .second, .val (.ref b1), .val (.ref b5), .unset, .unset, .unset] [(.ref rb), (.ref ra)])) _
  refine Jvm.RoadKit.acmp (g := (mkF m 84 #[.val (.int p0), .val (.long q1), .second, .val (.int p2), .val (.long q3), .second, .val (.int p4), .val (.ref ra), .val (.ref rb), .val (.int how), .val (.long idB), .second, .val (.ref b1), .val (.ref b5), .unset, .unset, .unset] [(.ref rb), (.ref ra)])) X7 hx rfl rfl rfl (pc0 := 84) (pc' := 87) (same := true) rfl (hb hby at_84) rfl (decide_eq_true (congrArg Value.ref ha84)) (by decide) (by decide) ?_
  show Steps p.tables e below (T7.setTop (mkF m 87 #[.val (.int p0), .val (.long q1), .second, .val (.int p2), .val (.long q3), .second, .val (.int p4), .val (.ref ra), .val (.ref rb), .val (.int how), .val (.long idB), .second, .val (.ref b1), .val (.ref b5), .unset, .unset, .unset] [])) _
  refine XS.lloadN X7.here hx rfl (hb hby at_87) rfl ?_
  show Steps p.tables e below (T7.setTop (mkF m 88 #[.val (.int p0), .val (.long q1), .second, .val (.int p2), .val (.long q3), .second, .val (.int p4), .val (.ref ra), .val (.ref rb), .val (.int how), .val (.long idB), .second, .val (.ref b1), .val (.ref b5), .unset, .unset, .unset] [(.long q1)])) _
  refine XS.lload X7.here hx rfl (hb hby at_88) rfl ?_
  show Steps p.tables e below (T7.setTop (mkF m 90 #[.val (.int p0), .val (.long q1), .second, .val (.int p2), .val (.long q3), .second, .val (.int p4), .val (.ref ra), .val (.ref rb), .val (.int how), .val (.long idB), .second, .val (.ref b1), .val (.ref b5), .unset, .unset, .unset] [(.long idB), (.long q1)])) _
  refine XS.lcmp X7.here hx rfl (hb hby at_90) rfl ?_
  show Steps p.tables e below (T7.setTop (mkF m 91 #[.val (.int p0), .val (.long q1), .second, .val (.int p2), .val (.long q3), .second, .val (.int p4), .val (.ref ra), .val (.ref rb), .val (.int how), .val (.long idB), .second, .val (.ref b1), .val (.ref b5), .unset, .unset, .unset] [(.int (lcmpW q1 idB))])) _
  refine XS.ifNo X7.here hx rfl (hb hby at_91) rfl ((if0 _ _).trans (teq ((lw_eq q1 idB).mpr hc91)).2) ?_
  show Steps p.tables e below (T7.setTop (mkF m 94 #[.val (.int p0), .val (.long q1), .second, .val (.int p2), .val (.long q3), .second, .val (.int p4), .val (.ref ra), .val (.ref rb), .val (.int how), .val (.long idB), .second, .val (.ref b1), .val (.ref b5), .unset, .unset, .unset] [])) _
  refine XS.iconst X7.here hx rfl (hb hby at_94) ?_
  show Steps p.tables e below (T7.setTop (mkF m 95 #[.val (.int p0), .val (.long q1), .second, .val (.int p2), .val (.long q3), .second, .val (.int p4), .val (.ref ra), .val (.ref rb), .val (.int how), .val (.long idB), .second, .val (.ref b1), .val (.ref b5), .unset, .unset, .unset] [(.int (1 : Int32))])) _
  refine XS.goto X7.here hx rfl (pc0 := 95) (pc' := 99) rfl (hb hby at_95) (by decide) (by decide) ?_
  show Steps p.tables e below (T7.setTop (mkF m 99 #[.val (.int p0), .val (.long q1), .second, .val (.int p2), .val (.long q3), .second, .val (.int p4), .val (.ref ra), .val (.ref rb), .val (.int how), .val (.long idB), .second, .val (.ref b1), .val (.ref b5), .unset, .unset, .unset] [(.int (1 : Int32))])) _
  refine XS.istore X7.here hx rfl (hb hby at_99) rfl (l' := #[.val (.int p0), .val (.long q1), .second, .val (.int p2), .val (.long q3), .second, .val (.int p4), .val (.ref ra), .val (.ref rb), .val (.int how), .val (.long idB), .second, .val (.ref b1), .val (.ref b5), .val (.int (1 : Int32)), .unset, .unset]) rfl ?_
  show Steps p.tables e below (T7.setTop (mkF m 101 #[.val (.int p0), .val (.long q1), .second, .val (.int p2), .val (.long q3), .second, .val (.int p4), .val (.ref ra), .val (.ref rb), .val (.int how), .val (.long idB), .second, .val (.ref b1), .val (.ref b5), .val (.int (1 : Int32)), .unset, .unset] [])) _
  refine XS.aload X7.here hx rfl (hb hby at_101) rfl rfl ?_
  show Steps p.tables e below (T7.setTop (mkF m 103 #[.val (.int p0), .val (.long q1), .second, .val (.int p2), .val (.long q3), .second, .val (.int p4), .val (.ref ra), .val (.ref rb), .val (.int how), .val (.long idB), .second, .val (.ref b1), .val (.ref b5), .val (.int (1 : Int32)), .unset, .unset] [(.ref b1)])) _
  refine XS.aload X7.here hx rfl (hb hby at_103) rfl rfl ?_
  show Steps p.tables e below (T7.setTop (mkF m 105 #[.val (.int p0), .val (.long q1), .second, .val (.int p2), .val (.long q3), .second, .val (.int p4), .val (.ref ra), .val (.ref rb), .val (.int how), .val (.long idB), .second, .val (.ref b1), .val (.ref b5), .val (.int (1 : Int32)), .unset, .unset] [(.ref b5), (.ref b1)])) _
  refine st9.trans ?_
  show Steps p.tables e below (T9.setTop (mkF m 108 #[.val (.int p0), .val (.long q1), .second, .val (.int p2), .val (.long q3), .second, .val (.int p4), .val (.ref ra), .val (.ref rb), .val (.int how), .val (.long idB), .second, .val (.ref b1), .val (.ref b5), .val (.int (1 : Int32)), .unset, .unset] [(.int (1 : Int32))])) _
  refine XS.iload X9.here hx rfl (hb hby at_108) rfl ?_
  show Steps p.tables e below (T9.setTop (mkF m 110 #[.val (.int p0), .val (.long q1), .second, .val (.int p2), .val (.long q3), .second, .val (.int p4), .val (.ref ra), .val (.ref rb), .val (.int how), .val (.long idB), .second, .val (.ref b1), .val (.ref b5), .val (.int (1 : Int32)), .unset, .unset] [(.int (1 : Int32)), (.int (1 : Int32))])) _
  refine XS.icmpNo X9.here hx rfl (hb hby at_110) rfl (teq (by decide)).2 ?_
  show Steps p.tables e below (T9.setTop (mkF m 113 #[.val (.int p0), .val (.long q1), .second, .val (.int p2), .val (.long q3), .second, .val (.int p4), .val (.ref ra), .val (.ref rb), .val (.int how), .val (.long idB), .second, .val (.ref b1), .val (.ref b5), .val (.int (1 : Int32)), .unset, .unset] [])) _
  refine XS.aload X9.here hx rfl (hb hby at_113) rfl rfl ?_
  show Steps p.tables e below (T9.setTop (mkF m 115 #[.val (.int p0), .val (.long q1), .second, .val (.int p2), .val (.long q3), .second, .val (.int p4), .val (.ref ra), .val (.ref rb), .val (.int how), .val (.long idB), .second, .val (.ref b1), .val (.ref b5), .val (.int (1 : Int32)), .unset, .unset] [(.ref b5)])) _
  refine XS.aload X9.here hx rfl (hb hby at_115) rfl rfl ?_
  show Steps p.tables e below (T9.setTop (mkF m 117 #[.val (.int p0), .val (.long q1), .second, .val (.int p2), .val (.long q3), .second, .val (.int p4), .val (.ref ra), .val (.ref rb), .val (.int how), .val (.long idB), .second, .val (.ref b1), .val (.ref b5), .val (.int (1 : Int32)), .unset, .unset] [(.ref b1), (.ref b5)])) _
  refine st10.trans ?_
  show Steps p.tables e below (T10.setTop (mkF m 120 #[.val (.int p0), .val (.long q1), .second, .val (.int p2), .val (.long q3), .second, .val (.int p4), .val (.ref ra), .val (.ref rb), .val (.int how), .val (.long idB), .second, .val (.ref b1), .val (.ref b5), .val (.int (1 : Int32)), .unset, .unset] [(.int (1 : Int32))])) _
  refine XS.iload X10.here hx rfl (hb hby at_120) rfl ?_
  show Steps p.tables e below (T10.setTop (mkF m 122 #[.val (.int p0), .val (.long q1), .second, .val (.int p2), .val (.long q3), .second, .val (.int p4), .val (.ref ra), .val (.ref rb), .val (.int how), .val (.long idB), .second, .val (.ref b1), .val (.ref b5), .val (.int (1 : Int32)), .unset, .unset] [(.int (1 : Int32)), (.int (1 : Int32))])) _
  refine XS.icmpNo X10.here hx rfl (hb hby at_122) rfl (teq (by decide)).2 ?_
  show Steps p.tables e below (T10.setTop (mkF m 125 #[.val (.int p0), .val (.long q1), .second, .val (.int p2), .val (.long q3), .second, .val (.int p4), .val (.ref ra), .val (.ref rb), .val (.int how), .val (.long idB), .second, .val (.ref b1), .val (.ref b5), .val (.int (1 : Int32)), .unset, .unset] [])) _
  refine XS.iconst X10.here hx rfl (hb hby at_125) ?_
  show Steps p.tables e below (T10.setTop (mkF m 126 #[.val (.int p0), .val (.long q1), .second, .val (.int p2), .val (.long q3), .second, .val (.int p4), .val (.ref ra), .val (.ref rb), .val (.int how), .val (.long idB), .second, .val (.ref b1), .val (.ref b5), .val (.int (1 : Int32)), .unset, .unset] [(.int (1 : Int32))])) _
  refine XS.goto X10.here hx rfl (pc0 := 126) (pc' := 130) rfl (hb hby at_126) (by decide) (by decide) ?_
  show Steps p.tables e below (T10.setTop (mkF m 130 #[.val (.int p0), .val (.long q1), .second, .val (.int p2), .val (.long q3), .second, .val (.int p4), .val (.ref ra), .val (.ref rb), .val (.int how), .val (.long idB), .second, .val (.ref b1), .val (.ref b5), .val (.int (1 : Int32)), .unset, .unset] [(.int (1 : Int32))])) _
  refine XS.istore X10.here hx rfl (hb hby at_130) rfl (l' := #[.val (.int p0), .val (.long q1), .second, .val (.int p2), .val (.long q3), .second, .val (.int p4), .val (.ref ra), .val (.ref rb), .val (.int how), .val (.long idB), .second, .val (.ref b1), .val (.ref b5), .val (.int (1 : Int32)), .val (.int (1 : Int32)), .unset]) rfl ?_
  show Steps p.tables e below (T10.setTop (mkF m 132 #[.val (.int p0), .val (.long q1), .second, .val (.int p2), .val (.long q3), .second, .val (.int p4), .val (.ref ra), .val (.ref rb), .val (.int how), .val (.long idB), .second, .val (.ref b1), .val (.ref b5), .val (.int (1 : Int32)), .val (.int (1 : Int32)), .unset] [])) _
  refine XS.iload X10.here hx rfl (hb hby at_132) rfl ?_
  show Steps p.tables e below (T10.setTop (mkF m 134 #[.val (.int p0), .val (.long q1), .second, .val (.int p2), .val (.long q3), .second, .val (.int p4), .val (.ref ra), .val (.ref rb), .val (.int how), .val (.long idB), .second, .val (.ref b1), .val (.ref b5), .val (.int (1 : Int32)), .val (.int (1 : Int32)), .unset] [(.int p4)])) _
  refine XS.bipush X10.here hx rfl (hb hby at_134) ?_
  show Steps p.tables e below (T10.setTop (mkF m 136 #[.val (.int p0), .val (.long q1), .second, .val (.int p2), .val (.long q3), .second, .val (.int p4), .val (.ref ra), .val (.ref rb), .val (.int how), .val (.long idB), .second, .val (.ref b1), .val (.ref b5), .val (.int (1 : Int32)), .val (.int (1 : Int32)), .unset] [(.int (8 : Int32)), (.int p4)])) _
  refine XS.iushr X10.here hx rfl (hb hby at_136) rfl ?_
  show Steps p.tables e below (T10.setTop (mkF m 137 #[.val (.int p0), .val (.long q1), .second, .val (.int p2), .val (.long q3), .second, .val (.int p4), .val (.ref ra), .val (.ref rb), .val (.int how), .val (.long idB), .second, .val (.ref b1), .val (.ref b5), .val (.int (1 : Int32)), .val (.int (1 : Int32)), .unset] [(.int ((p4.toUInt32 >>> ((8 : Int32) &&& 31).toUInt32).toInt32))])) _
  refine XS.iconst X10.here hx rfl (hb hby at_137) ?_
  show Steps p.tables e below (T10.setTop (mkF m 138 #[.val (.int p0), .val (.long q1), .second, .val (.int p2), .val (.long q3), .second, .val (.int p4), .val (.ref ra), .val (.ref rb), .val (.int how), .val (.long idB), .second, .val (.ref b1), .val (.ref b5), .val (.int (1 : Int32)), .val (.int (1 : Int32)), .unset] [(.int (3 : Int32)), (.int ((p4.toUInt32 >>> ((8 : Int32) &&& 31).toUInt32).toInt32))])) _
  refine XS.iand X10.here hx rfl (hb hby at_138) rfl ?_
  show Steps p.tables e below (T10.setTop (mkF m 139 #[.val (.int p0), .val (.long q1), .second, .val (.int p2), .val (.long q3), .second, .val (.int p4), .val (.ref ra), .val (.ref rb), .val (.int how), .val (.long idB), .second, .val (.ref b1), .val (.ref b5), .val (.int (1 : Int32)), .val (.int (1 : Int32)), .unset] [(.int (((p4.toUInt32 >>> ((8 : Int32) &&& 31).toUInt32).toInt32) &&& (3 : Int32)))])) _
  refine XS.istore X10.here hx rfl (hb hby at_139) rfl (l' := #[.val (.int p0), .val (.long q1), .second, .val (.int p2), .val (.long q3), .second, .val (.int p4), .val (.ref ra), .val (.ref rb), .val (.int how), .val (.long idB), .second, .val (.ref b1), .val (.ref b5), .val (.int (1 : Int32)), .val (.int (1 : Int32)), .val (.int (((p4.toUInt32 >>> ((8 : Int32) &&& 31).toUInt32).toInt32) &&& (3 : Int32)))]) rfl ?_
  show Steps p.tables e below (T10.setTop (mkF m 141 #[.val (.int p0), .val (.long q1), .second, .val (.int p2), .val (.long q3), .second, .val (.int p4), .val (.ref ra), .val (.ref rb), .val (.int how), .val (.long idB), .second, .val (.ref b1), .val (.ref b5), .val (.int (1 : Int32)), .val (.int (1 : Int32)), .val (.int (((p4.toUInt32 >>> ((8 : Int32) &&& 31).toUInt32).toInt32) &&& (3 : Int32)))] [])) _
  refine XS.iload X10.here hx rfl (hb hby at_141) rfl ?_
  show Steps p.tables e below (T10.setTop (mkF m 143 #[.val (.int p0), .val (.long q1), .second, .val (.int p2), .val (.long q3), .second, .val (.int p4), .val (.ref ra), .val (.ref rb), .val (.int how), .val (.long idB), .second, .val (.ref b1), .val (.ref b5), .val (.int (1 : Int32)), .val (.int (1 : Int32)), .val (.int (((p4.toUInt32 >>> ((8 : Int32) &&& 31).toUInt32).toInt32) &&& (3 : Int32)))] [(.int (((p4.toUInt32 >>> ((8 : Int32) &&& 31).toUInt32).toInt32) &&& (3 : Int32)))])) _
  refine XS.iconst X10.here hx rfl (hb hby at_143) ?_
  show Steps p.tables e below (T10.setTop (mkF m 144 #[.val (.int p0), .val (.long q1), .second, .val (.int p2), .val (.long q3), .second, .val (.int p4), .val (.ref ra), .val (.ref rb), .val (.int how), .val (.long idB), .second, .val (.ref b1), .val (.ref b5), .val (.int (1 : Int32)), .val (.int (1 : Int32)), .val (.int (((p4.toUInt32 >>> ((8 : Int32) &&& 31).toUInt32).toInt32) &&& (3 : Int32)))] [(.int (1 : Int32)), (.int (((p4.toUInt32 >>> ((8 : Int32) &&& 31).toUInt32).toInt32) &&& (3 : Int32)))])) _
  refine XS.icmpYes X10.here hx rfl (pc0 := 144) (pc' := 171) rfl (hb hby at_144) rfl (feq hc144).2 (by decide) (by decide) ?_
  show Steps p.tables e below (T10.setTop (mkF m 171 #[.val (.int p0), .val (.long q1), .second, .val (.int p2), .val (.long q3), .second, .val (.int p4), .val (.ref ra), .val (.ref rb), .val (.int how), .val (.long idB), .second, .val (.ref b1), .val (.ref b5), .val (.int (1 : Int32)), .val (.int (1 : Int32)), .val (.int (((p4.toUInt32 >>> ((8 : Int32) &&& 31).toUInt32).toInt32) &&& (3 : Int32)))] [])) _
  refine XS.iload X10.here hx rfl (hb hby at_171) rfl ?_
  show Steps p.tables e below (T10.setTop (mkF m 173 #[.val (.int p0), .val (.long q1), .second, .val (.int p2), .val (.long q3), .second, .val (.int p4), .val (.ref ra), .val (.ref rb), .val (.int how), .val (.long idB), .second, .val (.ref b1), .val (.ref b5), .val (.int (1 : Int32)), .val (.int (1 : Int32)), .val (.int (((p4.toUInt32 >>> ((8 : Int32) &&& 31).toUInt32).toInt32) &&& (3 : Int32)))] [(.int (((p4.toUInt32 >>> ((8 : Int32) &&& 31).toUInt32).toInt32) &&& (3 : Int32)))])) _
  refine XS.iconst X10.here hx rfl (hb hby at_173) ?_
  show Steps p.tables e below (T10.setTop (mkF m 174 #[.val (.int p0), .val (.long q1), .second, .val (.int p2), .val (.long q3), .second, .val (.int p4), .val (.ref ra), .val (.ref rb), .val (.int how), .val (.long idB), .second, .val (.ref b1), .val (.ref b5), .val (.int (1 : Int32)), .val (.int (1 : Int32)), .val (.int (((p4.toUInt32 >>> ((8 : Int32) &&& 31).toUInt32).toInt32) &&& (3 : Int32)))] [(.int (2 : Int32)), (.int (((p4.toUInt32 >>> ((8 : Int32) &&& 31).toUInt32).toInt32) &&& (3 : Int32)))])) _
  refine XS.icmpNo X10.here hx rfl (hb hby at_174) rfl (teq hc174).2 ?_
  show Steps p.tables e below (T10.setTop (mkF m 177 #[.val (.int p0), .val (.long q1), .second, .val (.int p2), .val (.long q3), .second, .val (.int p4), .val (.ref ra), .val (.ref rb), .val (.int how), .val (.long idB), .second, .val (.ref b1), .val (.ref b5), .val (.int (1 : Int32)), .val (.int (1 : Int32)), .val (.int (((p4.toUInt32 >>> ((8 : Int32) &&& 31).toUInt32).toInt32) &&& (3 : Int32)))] [])) _
  refine XS.iload X10.here hx rfl (hb hby at_177) rfl ?_
  show Steps p.tables e below (T10.setTop (mkF m 179 #[.val (.int p0), .val (.long q1), .second, .val (.int p2), .val (.long q3), .second, .val (.int p4), .val (.ref ra), .val (.ref rb), .val (.int how), .val (.long idB), .second, .val (.ref b1), .val (.ref b5), .val (.int (1 : Int32)), .val (.int (1 : Int32)), .val (.int (((p4.toUInt32 >>> ((8 : Int32) &&& 31).toUInt32).toInt32) &&& (3 : Int32)))] [(.int (1 : Int32))])) _
  refine XS.ifNo X10.here hx rfl (hb hby at_179) rfl ((if0 _ _).trans (feq (by decide)).1) ?_
  show Steps p.tables e below (T10.setTop (mkF m 182 #[.val (.int p0), .val (.long q1), .second, .val (.int p2), .val (.long q3), .second, .val (.int p4), .val (.ref ra), .val (.ref rb), .val (.int how), .val (.long idB), .second, .val (.ref b1), .val (.ref b5), .val (.int (1 : Int32)), .val (.int (1 : Int32)), .val (.int (((p4.toUInt32 >>> ((8 : Int32) &&& 31).toUInt32).toInt32) &&& (3 : Int32)))] [])) _
  refine XS.aload X10.here hx rfl (hb hby at_182) rfl rfl ?_
  show Steps p.tables e below (T10.setTop (mkF m 184 #[.val (.int p0), .val (.long q1), .second, .val (.int p2), .val (.long q3), .second, .val (.int p4), .val (.ref ra), .val (.ref rb), .val (.int how), .val (.long idB), .second, .val (.ref b1), .val (.ref b5), .val (.int (1 : Int32)), .val (.int (1 : Int32)), .val (.int (((p4.toUInt32 >>> ((8 : Int32) &&& 31).toUInt32).toInt32) &&& (3 : Int32)))] [(.ref b1)])) _
  refine XS.lloadN X10.here hx rfl (hb hby at_184) rfl ?_
  show Steps p.tables e below (T10.setTop (mkF m 185 #[.val (.int p0), .val (.long q1), .second, .val (.int p2), .val (.long q3), .second, .val (.int p4), .val (.ref ra), .val (.ref rb), .val (.int how), .val (.long idB), .second, .val (.ref b1), .val (.ref b5), .val (.int (1 : Int32)), .val (.int (1 : Int32)), .val (.int (((p4.toUInt32 >>> ((8 : Int32) &&& 31).toUInt32).toInt32) &&& (3 : Int32)))] [(.long q1), (.ref b1)])) _
  refine st11 _ ?_
  show Steps p.tables e below (T11.setTop (mkF m 188 #[.val (.int p0), .val (.long q1), .second, .val (.int p2), .val (.long q3), .second, .val (.int p4), .val (.ref ra), .val (.ref rb), .val (.int how), .val (.long idB), .second, .val (.ref b1), .val (.ref b5), .val (.int (1 : Int32)), .val (.int (1 : Int32)), .val (.int (((p4.toUInt32 >>> ((8 : Int32) &&& 31).toUInt32).toInt32) &&& (3 : Int32)))] [(.ref v11), (.ref b1)])) _
  refine st13.trans ?_
  show Steps p.tables e below (T13.setTop (mkF m 191 #[.val (.int p0), .val (.long q1), .second, .val (.int p2), .val (.long q3), .second, .val (.int p4), .val (.ref ra), .val (.ref rb), .val (.int how), .val (.long idB), .second, .val (.ref b1), .val (.ref b5), .val (.int (1 : Int32)), .val (.int (1 : Int32)), .val (.int (((p4.toUInt32 >>> ((8 : Int32) &&& 31).toUInt32).toInt32) &&& (3 : Int32)))] [(.int (0 : Int32))])) _
  refine XS.ifNo X13.here hx rfl (hb hby at_191) rfl ((if0 _ _).trans (teq (by decide)).2) ?_
  show Steps p.tables e below (T13.setTop (mkF m 194 #[.val (.int p0), .val (.long q1), .second, .val (.int p2), .val (.long q3), .second, .val (.int p4), .val (.ref ra), .val (.ref rb), .val (.int how), .val (.long idB), .second, .val (.ref b1), .val (.ref b5), .val (.int (1 : Int32)), .val (.int (1 : Int32)), .val (.int (((p4.toUInt32 >>> ((8 : Int32) &&& 31).toUInt32).toInt32) &&& (3 : Int32)))] [])) _
  refine XS.iconst X13.here hx rfl (hb hby at_194) ?_
  show Steps p.tables e below (T13.setTop (mkF m 195 #[.val (.int p0), .val (.long q1), .second, .val (.int p2), .val (.long q3), .second, .val (.int p4), .val (.ref ra), .val (.ref rb), .val (.int how), .val (.long idB), .second, .val (.ref b1), .val (.ref b5), .val (.int (1 : Int32)), .val (.int (1 : Int32)), .val (.int (((p4.toUInt32 >>> ((8 : Int32) &&& 31).toUInt32).toInt32) &&& (3 : Int32)))] [(.int (1 : Int32))])) _
  refine XS.goto X13.here hx rfl (pc0 := 195) (pc' := 199) rfl (hb hby at_195) (by decide) (by decide) ?_
  show Steps p.tables e below (T13.setTop (mkF m 199 #[.val (.int p0), .val (.long q1), .second, .val (.int p2), .val (.long q3), .second, .val (.int p4), .val (.ref ra), .val (.ref rb), .val (.int how), .val (.long idB), .second, .val (.ref b1), .val (.ref b5), .val (.int (1 : Int32)), .val (.int (1 : Int32)), .val (.int (((p4.toUInt32 >>> ((8 : Int32) &&& 31).toUInt32).toInt32) &&& (3 : Int32)))] [(.int (1 : Int32))])) _
  refine XS.istore X13.here hx rfl (hb hby at_199) rfl (l' := #[.val (.int p0), .val (.long q1), .second, .val (.int p2), .val (.long q3), .second, .val (.int p4), .val (.ref ra), .val (.ref rb), .val (.int how), .val (.long idB), .second, .val (.ref b1), .val (.ref b5), .val (.int (1 : Int32)), .val (.int (1 : Int32)), .val (.int (((p4.toUInt32 >>> ((8 : Int32) &&& 31).toUInt32).toInt32) &&& (3 : Int32)))]) rfl ?_
  show Steps p.tables e below (T13.setTop (mkF m 201 #[.val (.int p0), .val (.long q1), .second, .val (.int p2), .val (.long q3), .second, .val (.int p4), .val (.ref ra), .val (.ref rb), .val (.int how), .val (.long idB), .second, .val (.ref b1), .val (.ref b5), .val (.int (1 : Int32)), .val (.int (1 : Int32)), .val (.int (((p4.toUInt32 >>> ((8 : Int32) &&& 31).toUInt32).toInt32) &&& (3 : Int32)))] [])) _
  refine XS.goto X13.here hx rfl (pc0 := 201) (pc' := 232) rfl (hb hby at_201) (by decide) (by decide) ?_
  show Steps p.tables e below (T13.setTop (mkF m 232 #[.val (.int p0), .val (.long q1), .second, .val (.int p2), .val (.long q3), .second, .val (.int p4), .val (.ref ra), .val (.ref rb), .val (.int how), .val (.long idB), .second, .val (.ref b1), .val (.ref b5), .val (.int (1 : Int32)), .val (.int (1 : Int32)), .val (.int (((p4.toUInt32 >>> ((8 : Int32) &&& 31).toUInt32).toInt32) &&& (3 : Int32)))] [])) _
  refine XS.iload X13.here hx rfl (hb hby at_232) rfl ?_
  show Steps p.tables e below (T13.setTop (mkF m 234 #[.val (.int p0), .val (.long q1), .second, .val (.int p2), .val (.long q3), .second, .val (.int p4), .val (.ref ra), .val (.ref rb), .val (.int how), .val (.long idB), .second, .val (.ref b1), .val (.ref b5), .val (.int (1 : Int32)), .val (.int (1 : Int32)), .val (.int (((p4.toUInt32 >>> ((8 : Int32) &&& 31).toUInt32).toInt32) &&& (3 : Int32)))] [(.int (1 : Int32))])) _
  exact retN X13 hx (t := .boolean) hret (by simp) (hb hby at_234) hr
set_option maxRecDepth 65536 in
set_option maxHeartbeats 40000000 in
theorem tail_fttt (l : Launch) (Z : State) (a0 : Array Value) (hw : ∀ d ∈ tables_1, d.before a0 Z = true) (p0 : Int32) (q1 : Int64) (p2 : Int32) (q3 : Int64) (p4 : Int32) (ra : Addr) (rb : Addr) (how : Int32) (idB : Int64) (h0 : Heap) (n0 : Nat) (Z0 : n0 ≤ h0.size) (E_ra : Exa Z h0 ra "com/example/lessor/lessor/namespace/FileType") (E_rb : Exa Z h0 rb "com/example/lessor/lessor/namespace/FileType") (ha84 : ¬ (ra = rb)) (hc144 : ¬ ((((p4.toUInt32 >>> ((8 : Int32) &&& 31).toUInt32).toInt32) &&& (3 : Int32)) = (1 : Int32))) (hc174 : ¬ ((((p4.toUInt32 >>> ((8 : Int32) &&& 31).toUInt32).toInt32) &&& (3 : Int32)) = (2 : Int32))) (hc207 : ¬ ((((p4.toUInt32 >>> ((8 : Int32) &&& 31).toUInt32).toInt32) &&& (3 : Int32)) = (3 : Int32)))
    {p : Program} {e : Env} {s : State} {m : MethodId} {args : Array Value} {below : List Frame} {meth : Method} {c : Code} {s₁ : State} {locs : List Loc} (X0 : Stand p l e room_1 s m args below meth c s₁ locs 0 0) (N0 : Fr n0 locs) (hx : p.tables.exec = Jvm.exec) (hZ : Z.Warmed39 s.vm) (hby : c.code = code) (hml : c.maxLocals = 17) (hown : s.vm.findClass "com/example/lessor/lessor/namespace/BindingEqualsPinLaw" = some m.cls) (hret : meth.sig.returnType = ret) (hlk : meth.locks = false) (e0 : s₁.heap = h0) :
    ∃ s₂ o, Steps p.tables e below (s₁.setTop (mkF m 55 #[.val (.int p0), .val (.long q1), .second, .val (.int p2), .val (.long q3), .second, .val (.int p4), .val (.ref ra), .val (.ref rb), .val (.int how), .val (.long idB), .second, .unset, .unset, .unset, .unset, .unset] [])) s₂ ∧ s₂.status = .running ∧ Ended s₂ below o ∧ (∃ v L, o = .returned v ∧ (v = some (.int (1 : Int32)) ∧ Fr n0 L) ∧ FrameEnd s o s₂ L room_1.cells room_1.slots) := by
  obtain ⟨T1, h1, X1, e1, E1, A1, D1, -, st1⟩ := newO X0 hx hZ hown (hw _ (List.mem_of_getElem? (i := 9) rfl)) (hw _ (List.mem_of_getElem? (i := 10) rfl)) (hw _ (List.mem_of_getElem? (i := 11) rfl)) e0 (g := (mkF m 55 #[.val (.int p0), .val (.long q1), .second, .val (.int p2), .val (.long q3), .second, .val (.int p4), .val (.ref ra), .val (.ref rb), .val (.int how), .val (.long idB), .second, .unset, .unset, .unset, .unset, .unset] [])) rfl (hb hby at_55) (by decide) (by decide)
  obtain ⟨b1, g1⟩ : ∃ z, z = h0.size := ⟨_, rfl⟩
  rw [← g1] at A1 D1 st1
  have g_b1 : n0 ≤ b1 := Nat.le_trans Z0 (Nat.le_of_eq g1.symm)
  have sz_b1 : h0.size ≤ b1 := Nat.le_trans (Keep.refl h0 []).1 (Nat.le_of_eq g1.symm)
  have E_b1 := A1
  have F_type_b1 : Fld Z h1 b1 "com/example/lessor/lessor/namespace/Binding" "type" "Lcom/example/lessor/lessor/namespace/FileType;" .null := D1 (Or.inr (hw _ (List.mem_of_getElem? (i := 25) rfl))) (ty := (.object "com/example/lessor/lessor/namespace/FileType")) (by decide)
  have F_identifier_b1 : Fld Z h1 b1 "com/example/lessor/lessor/namespace/Binding" "identifier" "J" (.long (0 : Int64)) := D1 (Or.inr (hw _ (List.mem_of_getElem? (i := 27) rfl))) (ty := .long) (by decide)
  have K2 : Keep h0 h1 [] := (Keep.refl h0 []).ext E1
  obtain ⟨_, _, ⟨T3, L3, k3, n3⟩, -, X3, ⟨Lc3, hQ3, l3, y3, z3⟩, st3⟩ := X1.specialBack hx (y := (⟨"com/example/lessor/lessor/namespace/Binding", "<init>", "(Lcom/example/lessor/lessor/namespace/FileType;J)V"⟩ : MethodName)) rfl hown (mvT hZ (hw _ (List.mem_of_getElem? (i := 12) rfl))) (mvT hZ (hw _ (List.mem_of_getElem? (i := 13) rfl))) (mvT hZ (hw _ (List.mem_of_getElem? (i := 14) rfl))) (by decide) (backOf (W := 1) (rmBinding l Z a0 hw [] b1 ra q1 .null (.long (0 : Int64)) h1 n0 (Nat.le_trans Z0 K2.1) E_b1 (E_ra.ext E1) F_type_b1 g_b1 F_identifier_b1) hZ (hw _ (List.mem_of_getElem? (i := 14) rfl)) (hw _ (List.mem_of_getElem? (i := 11) rfl)) (by decide) (by decide)) (g := (mkF m 62 #[.val (.int p0), .val (.long q1), .second, .val (.int p2), .val (.long q3), .second, .val (.int p4), .val (.ref ra), .val (.ref rb), .val (.int how), .val (.long idB), .second, .unset, .unset, .unset, .unset, .unset] [(.long q1), (.ref ra), (.ref b1), (.ref b1)])) rfl (by rw [hml]; rfl) (Steps.refl _) (a := b1) (argsL := [(.ref ra), (.long q1)]) (rest := [(.ref b1)]) (lenOf pd__Lcom_example_lessor_lessor_namespace_FileType_J_V rfl) rfl (by show 2 * 0 + _ ≤ _; exact Nat.le_of_eq rfl) (hb hby at_62) (fun _ _ => ⟨rfl, e1, (by decide : 1 + 0 ≤ _), (by decide : 2 + 0 ≤ _)⟩)
  dsimp only [Pt.U, Pt.locs, Pt.cells, Pt.slots] at X3 l3 y3 z3 st3 hQ3
  subst l3 y3 z3
  obtain ⟨rfl, N3q, K3, E3, Ff3, Fd3⟩ := hQ3
  have K4 : Keep h0 T3.heap [] := K2.trans K3 (allS (P := fun x => x ∈ [] ∨ h0.size ≤ x) (Or.inr sz_b1) all0)
  have N3 := Fr.app N0 N3q
  obtain ⟨T5, h5, X5, e5, E5, A5, D5, -, st5⟩ := newO X3 hx hZ hown (hw _ (List.mem_of_getElem? (i := 9) rfl)) (hw _ (List.mem_of_getElem? (i := 10) rfl)) (hw _ (List.mem_of_getElem? (i := 11) rfl)) rfl (g := (mkF m 67 #[.val (.int p0), .val (.long q1), .second, .val (.int p2), .val (.long q3), .second, .val (.int p4), .val (.ref ra), .val (.ref rb), .val (.int how), .val (.long idB), .second, .val (.ref b1), .unset, .unset, .unset, .unset] [])) rfl (hb hby at_67) (by decide) (by decide)
  obtain ⟨b5, g5⟩ : ∃ z, z = T3.heap.size := ⟨_, rfl⟩
  rw [← g5] at A5 D5 st5
  have g_b5 : n0 ≤ b5 := Nat.le_trans (Nat.le_trans Z0 K4.1) (Nat.le_of_eq g5.symm)
  have sz_b5 : h0.size ≤ b5 := Nat.le_trans K4.1 (Nat.le_of_eq g5.symm)
  have E_b5 := A5
  have F_type_b5 : Fld Z h5 b5 "com/example/lessor/lessor/namespace/Binding" "type" "Lcom/example/lessor/lessor/namespace/FileType;" .null := D5 (Or.inr (hw _ (List.mem_of_getElem? (i := 25) rfl))) (ty := (.object "com/example/lessor/lessor/namespace/FileType")) (by decide)
  have F_identifier_b5 : Fld Z h5 b5 "com/example/lessor/lessor/namespace/Binding" "identifier" "J" (.long (0 : Int64)) := D5 (Or.inr (hw _ (List.mem_of_getElem? (i := 27) rfl))) (ty := .long) (by decide)
  have K6 : Keep h0 h5 [] := K4.ext E5
  obtain ⟨_, _, ⟨T7, L7, k7, n7⟩, -, X7, ⟨Lc7, hQ7, l7, y7, z7⟩, st7⟩ := X5.specialBack hx (y := (⟨"com/example/lessor/lessor/namespace/Binding", "<init>", "(Lcom/example/lessor/lessor/namespace/FileType;J)V"⟩ : MethodName)) rfl hown (mvT hZ (hw _ (List.mem_of_getElem? (i := 12) rfl))) (mvT hZ (hw _ (List.mem_of_getElem? (i := 13) rfl))) (mvT hZ (hw _ (List.mem_of_getElem? (i := 14) rfl))) (by decide) (backOf (W := 1) (rmBinding l Z a0 hw [] b5 rb idB .null (.long (0 : Int64)) h5 n0 (Nat.le_trans Z0 K6.1) E_b5 (((E_rb.ext E1).keep K3).ext E5) F_type_b5 g_b5 F_identifier_b5) hZ (hw _ (List.mem_of_getElem? (i := 14) rfl)) (hw _ (List.mem_of_getElem? (i := 11) rfl)) (by decide) (by decide)) (g := (mkF m 75 #[.val (.int p0), .val (.long q1), .second, .val (.int p2), .val (.long q3), .second, .val (.int p4), .val (.ref ra), .val (.ref rb), .val (.int how), .val (.long idB), .second, .val (.ref b1), .unset, .unset, .unset, .unset] [(.long idB), (.ref rb), (.ref b5), (.ref b5)])) rfl (by rw [hml]; rfl) (Steps.refl _) (a := b5) (argsL := [(.ref rb), (.long idB)]) (rest := [(.ref b5)]) (lenOf pd__Lcom_example_lessor_lessor_namespace_FileType_J_V rfl) rfl (by show 2 * 0 + _ ≤ _; exact Nat.le_of_eq rfl) (hb hby at_75) (fun _ _ => ⟨rfl, e5, (by decide : 2 + 0 ≤ _), (by decide : 4 + 0 ≤ _)⟩)
  dsimp only [Pt.U, Pt.locs, Pt.cells, Pt.slots] at X7 l7 y7 z7 st7 hQ7
  subst l7 y7 z7
  obtain ⟨rfl, N7q, K7, E7, Ff7, Fd7⟩ := hQ7
  have K8 : Keep h0 T7.heap [] := K6.trans K7 (allS (P := fun x => x ∈ [] ∨ h0.size ≤ x) (Or.inr sz_b5) all0)
  have N7 := Fr.app N3 N7q
  have ne_b1_b5 : b1 ≠ b5 := Nat.ne_of_lt (Nat.lt_of_lt_of_le E3.lt (Nat.le_of_eq g5.symm))
  obtain ⟨cq9, kq9, q9a, q9b, q9c⟩ := isOf hZ rfl ((E3.ext E5).keep K7)
  obtain ⟨_, _, ⟨T9, L9, k9, n9⟩, -, X9, ⟨Lc9, hQ9, l9, y9, z9⟩, st9⟩ := X7.virtualBack hx (y := (⟨"com/example/lessor/lessor/namespace/Binding", "equals", "(Ljava/lang/Object;)Z"⟩ : MethodName)) (z := (⟨"com/example/lessor/lessor/namespace/Binding", "equals", "(Ljava/lang/Object;)Z"⟩ : MethodName)) hown (mvT hZ (hw _ (List.mem_of_getElem? (i := 28) rfl))) (mvT hZ (hw _ (List.mem_of_getElem? (i := 29) rfl))) (notFace_of_selects (args := #[]) (mvT hZ (hw _ (List.mem_of_getElem? (i := 31) rfl)))) (mvT hZ (hw _ (List.mem_of_getElem? (i := 31) rfl))) (mvT hZ (hw _ (List.mem_of_getElem? (i := 30) rfl))) (by decide) (backOf (W := 0) (rmEq_f l Z a0 hw [] b1 b5 ra rb T7.heap n0 (Nat.le_trans Z0 K8.1) E7 ((Ff3.ext E5).keep K7 (ninS ne_b1_b5 nin0)) Ff7 ha84) hZ (hw _ (List.mem_of_getElem? (i := 32) rfl)) (hw _ (List.mem_of_getElem? (i := 11) rfl)) (by decide) (by decide)) q9a q9c (g := (mkF m 105 #[.val (.int p0), .val (.long q1), .second, .val (.int p2), .val (.long q3), .second, .val (.int p4), .val (.ref ra), .val (.ref rb), .val (.int how), .val (.long idB), .second, .val (.ref b1), .val (.ref b5), .val (.int (0 : Int32)), .unset, .unset] [(.ref b5), (.ref b1)])) rfl (by rw [hml]; rfl) (Steps.refl _) (argsL := [(.ref b5)]) (rest := []) (lenOf pd__Ljava_lang_Object__Z rfl) rfl (by show 2 * 0 + _ ≤ _; exact Nat.le_of_eq rfl) (hb hby at_105) (fun _ _ => ⟨rfl, rfl, (by decide : 2 + 0 ≤ _), (by decide : 4 + 0 ≤ _)⟩)
  dsimp only [Pt.U, Pt.locs, Pt.cells, Pt.slots] at X9 l9 y9 z9 st9 hQ9
  subst l9 y9 z9
  obtain ⟨rfl, N9q, e9⟩ := hQ9
  have N9 := Fr.app N7 N9q
  obtain ⟨cq10, kq10, q10a, q10b, q10c⟩ := isOf hZ e9 E7
  obtain ⟨_, _, ⟨T10, L10, k10, n10⟩, -, X10, ⟨Lc10, hQ10, l10, y10, z10⟩, st10⟩ := X9.virtualBack hx (y := (⟨"com/example/lessor/lessor/namespace/Binding", "equals", "(Ljava/lang/Object;)Z"⟩ : MethodName)) (z := (⟨"com/example/lessor/lessor/namespace/Binding", "equals", "(Ljava/lang/Object;)Z"⟩ : MethodName)) hown (mvT hZ (hw _ (List.mem_of_getElem? (i := 28) rfl))) (mvT hZ (hw _ (List.mem_of_getElem? (i := 29) rfl))) (notFace_of_selects (args := #[]) (mvT hZ (hw _ (List.mem_of_getElem? (i := 31) rfl)))) (mvT hZ (hw _ (List.mem_of_getElem? (i := 31) rfl))) (mvT hZ (hw _ (List.mem_of_getElem? (i := 30) rfl))) (by decide) (backOf (W := 0) (rmEq_f l Z a0 hw [] b5 b1 rb ra T7.heap n0 (Nat.le_trans Z0 K8.1) ((E3.ext E5).keep K7) Ff7 ((Ff3.ext E5).keep K7 (ninS ne_b1_b5 nin0)) (fun q => ha84 (Eq.symm q))) hZ (hw _ (List.mem_of_getElem? (i := 32) rfl)) (hw _ (List.mem_of_getElem? (i := 11) rfl)) (by decide) (by decide)) q10a q10c (g := (mkF m 117 #[.val (.int p0), .val (.long q1), .second, .val (.int p2), .val (.long q3), .second, .val (.int p4), .val (.ref ra), .val (.ref rb), .val (.int how), .val (.long idB), .second, .val (.ref b1), .val (.ref b5), .val (.int (0 : Int32)), .unset, .unset] [(.ref b1), (.ref b5)])) rfl (by rw [hml]; rfl) (Steps.refl _) (argsL := [(.ref b1)]) (rest := []) (lenOf pd__Ljava_lang_Object__Z rfl) rfl (by show 2 * 0 + _ ≤ _; exact Nat.le_of_eq rfl) (hb hby at_117) (fun _ _ => ⟨rfl, e9, (by decide : 2 + 0 ≤ _), (by decide : 4 + 0 ≤ _)⟩)
  dsimp only [Pt.U, Pt.locs, Pt.cells, Pt.slots] at X10 l10 y10 z10 st10 hQ10
  subst l10 y10 z10
  obtain ⟨rfl, N10q, e10⟩ := hQ10
  have N10 := Fr.app N9 N10q
  obtain ⟨fs, hr, hrun, hended, hW, hsame⟩ := X10.leave (v := some (.int (1 : Int32))) (fun h => by rw [hret] at h; cases h)
  refine ⟨_, _, ?_, hrun, hended, _, _, rfl, ⟨rfl, N10⟩, ⟨_, rfl⟩, hW, hsame.mono (by decide) (by decide)⟩
  show Steps p.tables e below (s₁.setTop (mkF m 55 #[.val (.int p0), .val (.long q1), .second, .val (.int p2), .val (.long q3), .second, .val (.int p4), .val (.ref ra), .val (.ref rb), .val (.int how), .val (.long idB), .second, .unset, .unset, .unset, .unset, .unset] [])) _
  refine st1 _ ?_
  show Steps p.tables e below (T1.setTop (mkF m 58 #[.val (.int p0), .val (.long q1), .second, .val (.int p2), .val (.long q3), .second, .val (.int p4), .val (.ref ra), .val (.ref rb), .val (.int how), .val (.long idB), .second, .unset, .unset, .unset, .unset, .unset] [(.ref b1)])) _
  refine XS.dup X1.here hx rfl (hb hby at_58) rfl rfl ?_
  show Steps p.tables e below (T1.setTop (mkF m 59 #[.val (.int p0), .val (.long q1), .second, .val (.int p2), .val (.long q3), .second, .val (.int p4), .val (.ref ra), .val (.ref rb), .val (.int how), .val (.long idB), .second, .unset, .unset, .unset, .unset, .unset] [(.ref b1), (.ref b1)])) _
  refine XS.aload X1.here hx rfl (hb hby at_59) rfl rfl ?_
  show Steps p.tables e below (T1.setTop (mkF m 61 #[.val (.int p0), .val (.long q1), .second, .val (.int p2), .val (.long q3), .second, .val (.int p4), .val (.ref ra), .val (.ref rb), .val (.int how), .val (.long idB), .second, .unset, .unset, .unset, .unset, .unset] [(.ref ra), (.ref b1), (.ref b1)])) _
  refine XS.lloadN X1.here hx rfl (hb hby at_61) rfl ?_
  show Steps p.tables e below (T1.setTop (mkF m 62 #[.val (.int p0), .val (.long q1), .second, .val (.int p2), .val (.long q3), .second, .val (.int p4), .val (.ref ra), .val (.ref rb), .val (.int how), .val (.long idB), .second, .unset, .unset, .unset, .unset, .unset] [(.long q1), (.ref ra), (.ref b1), (.ref b1)])) _
  refine st3.trans ?_
  show Steps p.tables e below (T3.setTop (mkF m 65 #[.val (.int p0), .val (.long q1), .second, .val (.int p2), .val (.long q3), .second, .val (.int p4), .val (.ref ra), .val (.ref rb), .val (.int how), .val (.long idB), .second, .unset, .unset, .unset, .unset, .unset] [(.ref b1)])) _
  refine XS.astore X3.here hx rfl (hb hby at_65) rfl rfl (l' := #[.val (.int p0), .val (.long q1), .second, .val (.int p2), .val (.long q3), .second, .val (.int p4), .val (.ref ra), .val (.ref rb), .val (.int how), .val (.long idB), .second, .val (.ref b1), .unset, .unset, .unset, .unset]) rfl ?_
  show Steps p.tables e below (T3.setTop (mkF m 67 #[.val (.int p0), .val (.long q1), .second, .val (.int p2), .val (.long q3), .second, .val (.int p4), .val (.ref ra), .val (.ref rb), .val (.int how), .val (.long idB), .second, .val (.ref b1), .unset, .unset, .unset, .unset] [])) _
  refine st5 _ ?_
  show Steps p.tables e below (T5.setTop (mkF m 70 #[.val (.int p0), .val (.long q1), .second, .val (.int p2), .val (.long q3), .second, .val (.int p4), .val (.ref ra), .val (.ref rb), .val (.int how), .val (.long idB), .second, .val (.ref b1), .unset, .unset, .unset, .unset] [(.ref b5)])) _
  refine XS.dup X5.here hx rfl (hb hby at_70) rfl rfl ?_
  show Steps p.tables e below (T5.setTop (mkF m 71 #[.val (.int p0), .val (.long q1), .second, .val (.int p2), .val (.long q3), .second, .val (.int p4), .val (.ref ra), .val (.ref rb), .val (.int how), .val (.long idB), .second, .val (.ref b1), .unset, .unset, .unset, .unset] [(.ref b5), (.ref b5)])) _
  refine XS.aload X5.here hx rfl (hb hby at_71) rfl rfl ?_
  show Steps p.tables e below (T5.setTop (mkF m 73 #[.val (.int p0), .val (.long q1), .second, .val (.int p2), .val (.long q3), .second, .val (.int p4), .val (.ref ra), .val (.ref rb), .val (.int how), .val (.long idB), .second, .val (.ref b1), .unset, .unset, .unset, .unset] [(.ref rb), (.ref b5), (.ref b5)])) _
  refine XS.lload X5.here hx rfl (hb hby at_73) rfl ?_
  show Steps p.tables e below (T5.setTop (mkF m 75 #[.val (.int p0), .val (.long q1), .second, .val (.int p2), .val (.long q3), .second, .val (.int p4), .val (.ref ra), .val (.ref rb), .val (.int how), .val (.long idB), .second, .val (.ref b1), .unset, .unset, .unset, .unset] [(.long idB), (.ref rb), (.ref b5), (.ref b5)])) _
  refine st7.trans ?_
  show Steps p.tables e below (T7.setTop (mkF m 78 #[.val (.int p0), .val (.long q1), .second, .val (.int p2), .val (.long q3), .second, .val (.int p4), .val (.ref ra), .val (.ref rb), .val (.int how), .val (.long idB), .second, .val (.ref b1), .unset, .unset, .unset, .unset] [(.ref b5)])) _
  refine XS.astore X7.here hx rfl (hb hby at_78) rfl rfl (l' := #[.val (.int p0), .val (.long q1), .second, .val (.int p2), .val (.long q3), .second, .val (.int p4), .val (.ref ra), .val (.ref rb), .val (.int how), .val (.long idB), .second, .val (.ref b1), .val (.ref b5), .unset, .unset, .unset]) rfl ?_
  show Steps p.tables e below (T7.setTop (mkF m 80 #[.val (.int p0), .val (.long q1), .second, .val (.int p2), .val (.long q3), .second, .val (.int p4), .val (.ref ra), .val (.ref rb), .val (.int how), .val (.long idB), .second, .val (.ref b1), .val (.ref b5), .unset, .unset, .unset] [])) _
  refine XS.aload X7.here hx rfl (hb hby at_80) rfl rfl ?_
  show Steps p.tables e below (T7.setTop (mkF m 82 #[.val (.int p0), .val (.long q1), .second, .val (.int p2), .val (.long q3), .second, .val (.int p4), .val (.ref ra), .val (.ref rb), .val (.int how), .val (.long idB), .second, .val (.ref b1), .val (.ref b5), .unset, .unset, .unset] [(.ref ra)])) _
  refine XS.aload X7.here hx rfl (hb hby at_82) rfl rfl ?_
  show Steps p.tables e below (T7.setTop (mkF m 84 #[.val (.int p0), .val (.long q1), .second, .val (.int p2), .val (.long q3), .second, .val (.int p4), .val (.ref ra), .val (.ref rb), .val (.int how), .val (.long idB), .second, .val (.ref b1), .val (.ref b5), .unset, .unset, .unset] [(.ref rb), (.ref ra)])) _
  refine Jvm.RoadKit.acmp (g := (mkF m 84 #[.val (.int p0), .val (.long q1), .second, .val (.int p2), .val (.long q3), .second, .val (.int p4), .val (.ref ra), .val (.ref rb), .val (.int how), .val (.long idB), .second, .val (.ref b1), .val (.ref b5), .unset, .unset, .unset] [(.ref rb), (.ref ra)])) X7 hx rfl rfl rfl (pc0 := 84) (pc' := 98) (same := false) rfl (hb hby at_84) rfl (decide_eq_false fun q => ha84 (Value.ref.inj q)) (by decide) (by decide) ?_
  show Steps p.tables e below (T7.setTop (mkF m 98 #[.val (.int p0), .val (.long q1), .second, .val (.int p2), .val (.long q3), .second, .val (.int p4), .val (.ref ra), .val (.ref rb), .val (.int how), .val (.long idB), .second, .val (.ref b1), .val (.ref b5), .unset, .unset, .unset] [])) _
  refine XS.iconst X7.here hx rfl (hb hby at_98) ?_
  show Steps p.tables e below (T7.setTop (mkF m 99 #[.val (.int p0), .val (.long q1), .second, .val (.int p2), .val (.long q3), .second, .val (.int p4), .val (.ref ra), .val (.ref rb), .val (.int how), .val (.long idB), .second, .val (.ref b1), .val (.ref b5), .unset, .unset, .unset] [(.int (0 : Int32))])) _
  refine XS.istore X7.here hx rfl (hb hby at_99) rfl (l' := #[.val (.int p0), .val (.long q1), .second, .val (.int p2), .val (.long q3), .second, .val (.int p4), .val (.ref ra), .val (.ref rb), .val (.int how), .val (.long idB), .second, .val (.ref b1), .val (.ref b5), .val (.int (0 : Int32)), .unset, .unset]) rfl ?_
  show Steps p.tables e below (T7.setTop (mkF m 101 #[.val (.int p0), .val (.long q1), .second, .val (.int p2), .val (.long q3), .second, .val (.int p4), .val (.ref ra), .val (.ref rb), .val (.int how), .val (.long idB), .second, .val (.ref b1), .val (.ref b5), .val (.int (0 : Int32)), .unset, .unset] [])) _
  refine XS.aload X7.here hx rfl (hb hby at_101) rfl rfl ?_
  show Steps p.tables e below (T7.setTop (mkF m 103 #[.val (.int p0), .val (.long q1), .second, .val (.int p2), .val (.long q3), .second, .val (.int p4), .val (.ref ra), .val (.ref rb), .val (.int how), .val (.long idB), .second, .val (.ref b1), .val (.ref b5), .val (.int (0 : Int32)), .unset, .unset] [(.ref b1)])) _
  refine XS.aload X7.here hx rfl (hb hby at_103) rfl rfl ?_
  show Steps p.tables e below (T7.setTop (mkF m 105 #[.val (.int p0), .val (.long q1), .second, .val (.int p2), .val (.long q3), .second, .val (.int p4), .val (.ref ra), .val (.ref rb), .val (.int how), .val (.long idB), .second, .val (.ref b1), .val (.ref b5), .val (.int (0 : Int32)), .unset, .unset] [(.ref b5), (.ref b1)])) _
  refine st9.trans ?_
  show Steps p.tables e below (T9.setTop (mkF m 108 #[.val (.int p0), .val (.long q1), .second, .val (.int p2), .val (.long q3), .second, .val (.int p4), .val (.ref ra), .val (.ref rb), .val (.int how), .val (.long idB), .second, .val (.ref b1), .val (.ref b5), .val (.int (0 : Int32)), .unset, .unset] [(.int (0 : Int32))])) _
  refine XS.iload X9.here hx rfl (hb hby at_108) rfl ?_
  show Steps p.tables e below (T9.setTop (mkF m 110 #[.val (.int p0), .val (.long q1), .second, .val (.int p2), .val (.long q3), .second, .val (.int p4), .val (.ref ra), .val (.ref rb), .val (.int how), .val (.long idB), .second, .val (.ref b1), .val (.ref b5), .val (.int (0 : Int32)), .unset, .unset] [(.int (0 : Int32)), (.int (0 : Int32))])) _
  refine XS.icmpNo X9.here hx rfl (hb hby at_110) rfl (teq (by decide)).2 ?_
  show Steps p.tables e below (T9.setTop (mkF m 113 #[.val (.int p0), .val (.long q1), .second, .val (.int p2), .val (.long q3), .second, .val (.int p4), .val (.ref ra), .val (.ref rb), .val (.int how), .val (.long idB), .second, .val (.ref b1), .val (.ref b5), .val (.int (0 : Int32)), .unset, .unset] [])) _
  refine XS.aload X9.here hx rfl (hb hby at_113) rfl rfl ?_
  show Steps p.tables e below (T9.setTop (mkF m 115 #[.val (.int p0), .val (.long q1), .second, .val (.int p2), .val (.long q3), .second, .val (.int p4), .val (.ref ra), .val (.ref rb), .val (.int how), .val (.long idB), .second, .val (.ref b1), .val (.ref b5), .val (.int (0 : Int32)), .unset, .unset] [(.ref b5)])) _
  refine XS.aload X9.here hx rfl (hb hby at_115) rfl rfl ?_
  show Steps p.tables e below (T9.setTop (mkF m 117 #[.val (.int p0), .val (.long q1), .second, .val (.int p2), .val (.long q3), .second, .val (.int p4), .val (.ref ra), .val (.ref rb), .val (.int how), .val (.long idB), .second, .val (.ref b1), .val (.ref b5), .val (.int (0 : Int32)), .unset, .unset] [(.ref b1), (.ref b5)])) _
  refine st10.trans ?_
  show Steps p.tables e below (T10.setTop (mkF m 120 #[.val (.int p0), .val (.long q1), .second, .val (.int p2), .val (.long q3), .second, .val (.int p4), .val (.ref ra), .val (.ref rb), .val (.int how), .val (.long idB), .second, .val (.ref b1), .val (.ref b5), .val (.int (0 : Int32)), .unset, .unset] [(.int (0 : Int32))])) _
  refine XS.iload X10.here hx rfl (hb hby at_120) rfl ?_
  show Steps p.tables e below (T10.setTop (mkF m 122 #[.val (.int p0), .val (.long q1), .second, .val (.int p2), .val (.long q3), .second, .val (.int p4), .val (.ref ra), .val (.ref rb), .val (.int how), .val (.long idB), .second, .val (.ref b1), .val (.ref b5), .val (.int (0 : Int32)), .unset, .unset] [(.int (0 : Int32)), (.int (0 : Int32))])) _
  refine XS.icmpNo X10.here hx rfl (hb hby at_122) rfl (teq (by decide)).2 ?_
  show Steps p.tables e below (T10.setTop (mkF m 125 #[.val (.int p0), .val (.long q1), .second, .val (.int p2), .val (.long q3), .second, .val (.int p4), .val (.ref ra), .val (.ref rb), .val (.int how), .val (.long idB), .second, .val (.ref b1), .val (.ref b5), .val (.int (0 : Int32)), .unset, .unset] [])) _
  refine XS.iconst X10.here hx rfl (hb hby at_125) ?_
  show Steps p.tables e below (T10.setTop (mkF m 126 #[.val (.int p0), .val (.long q1), .second, .val (.int p2), .val (.long q3), .second, .val (.int p4), .val (.ref ra), .val (.ref rb), .val (.int how), .val (.long idB), .second, .val (.ref b1), .val (.ref b5), .val (.int (0 : Int32)), .unset, .unset] [(.int (1 : Int32))])) _
  refine XS.goto X10.here hx rfl (pc0 := 126) (pc' := 130) rfl (hb hby at_126) (by decide) (by decide) ?_
  show Steps p.tables e below (T10.setTop (mkF m 130 #[.val (.int p0), .val (.long q1), .second, .val (.int p2), .val (.long q3), .second, .val (.int p4), .val (.ref ra), .val (.ref rb), .val (.int how), .val (.long idB), .second, .val (.ref b1), .val (.ref b5), .val (.int (0 : Int32)), .unset, .unset] [(.int (1 : Int32))])) _
  refine XS.istore X10.here hx rfl (hb hby at_130) rfl (l' := #[.val (.int p0), .val (.long q1), .second, .val (.int p2), .val (.long q3), .second, .val (.int p4), .val (.ref ra), .val (.ref rb), .val (.int how), .val (.long idB), .second, .val (.ref b1), .val (.ref b5), .val (.int (0 : Int32)), .val (.int (1 : Int32)), .unset]) rfl ?_
  show Steps p.tables e below (T10.setTop (mkF m 132 #[.val (.int p0), .val (.long q1), .second, .val (.int p2), .val (.long q3), .second, .val (.int p4), .val (.ref ra), .val (.ref rb), .val (.int how), .val (.long idB), .second, .val (.ref b1), .val (.ref b5), .val (.int (0 : Int32)), .val (.int (1 : Int32)), .unset] [])) _
  refine XS.iload X10.here hx rfl (hb hby at_132) rfl ?_
  show Steps p.tables e below (T10.setTop (mkF m 134 #[.val (.int p0), .val (.long q1), .second, .val (.int p2), .val (.long q3), .second, .val (.int p4), .val (.ref ra), .val (.ref rb), .val (.int how), .val (.long idB), .second, .val (.ref b1), .val (.ref b5), .val (.int (0 : Int32)), .val (.int (1 : Int32)), .unset] [(.int p4)])) _
  refine XS.bipush X10.here hx rfl (hb hby at_134) ?_
  show Steps p.tables e below (T10.setTop (mkF m 136 #[.val (.int p0), .val (.long q1), .second, .val (.int p2), .val (.long q3), .second, .val (.int p4), .val (.ref ra), .val (.ref rb), .val (.int how), .val (.long idB), .second, .val (.ref b1), .val (.ref b5), .val (.int (0 : Int32)), .val (.int (1 : Int32)), .unset] [(.int (8 : Int32)), (.int p4)])) _
  refine XS.iushr X10.here hx rfl (hb hby at_136) rfl ?_
  show Steps p.tables e below (T10.setTop (mkF m 137 #[.val (.int p0), .val (.long q1), .second, .val (.int p2), .val (.long q3), .second, .val (.int p4), .val (.ref ra), .val (.ref rb), .val (.int how), .val (.long idB), .second, .val (.ref b1), .val (.ref b5), .val (.int (0 : Int32)), .val (.int (1 : Int32)), .unset] [(.int ((p4.toUInt32 >>> ((8 : Int32) &&& 31).toUInt32).toInt32))])) _
  refine XS.iconst X10.here hx rfl (hb hby at_137) ?_
  show Steps p.tables e below (T10.setTop (mkF m 138 #[.val (.int p0), .val (.long q1), .second, .val (.int p2), .val (.long q3), .second, .val (.int p4), .val (.ref ra), .val (.ref rb), .val (.int how), .val (.long idB), .second, .val (.ref b1), .val (.ref b5), .val (.int (0 : Int32)), .val (.int (1 : Int32)), .unset] [(.int (3 : Int32)), (.int ((p4.toUInt32 >>> ((8 : Int32) &&& 31).toUInt32).toInt32))])) _
  refine XS.iand X10.here hx rfl (hb hby at_138) rfl ?_
  show Steps p.tables e below (T10.setTop (mkF m 139 #[.val (.int p0), .val (.long q1), .second, .val (.int p2), .val (.long q3), .second, .val (.int p4), .val (.ref ra), .val (.ref rb), .val (.int how), .val (.long idB), .second, .val (.ref b1), .val (.ref b5), .val (.int (0 : Int32)), .val (.int (1 : Int32)), .unset] [(.int (((p4.toUInt32 >>> ((8 : Int32) &&& 31).toUInt32).toInt32) &&& (3 : Int32)))])) _
  refine XS.istore X10.here hx rfl (hb hby at_139) rfl (l' := #[.val (.int p0), .val (.long q1), .second, .val (.int p2), .val (.long q3), .second, .val (.int p4), .val (.ref ra), .val (.ref rb), .val (.int how), .val (.long idB), .second, .val (.ref b1), .val (.ref b5), .val (.int (0 : Int32)), .val (.int (1 : Int32)), .val (.int (((p4.toUInt32 >>> ((8 : Int32) &&& 31).toUInt32).toInt32) &&& (3 : Int32)))]) rfl ?_
  show Steps p.tables e below (T10.setTop (mkF m 141 #[.val (.int p0), .val (.long q1), .second, .val (.int p2), .val (.long q3), .second, .val (.int p4), .val (.ref ra), .val (.ref rb), .val (.int how), .val (.long idB), .second, .val (.ref b1), .val (.ref b5), .val (.int (0 : Int32)), .val (.int (1 : Int32)), .val (.int (((p4.toUInt32 >>> ((8 : Int32) &&& 31).toUInt32).toInt32) &&& (3 : Int32)))] [])) _
  refine XS.iload X10.here hx rfl (hb hby at_141) rfl ?_
  show Steps p.tables e below (T10.setTop (mkF m 143 #[.val (.int p0), .val (.long q1), .second, .val (.int p2), .val (.long q3), .second, .val (.int p4), .val (.ref ra), .val (.ref rb), .val (.int how), .val (.long idB), .second, .val (.ref b1), .val (.ref b5), .val (.int (0 : Int32)), .val (.int (1 : Int32)), .val (.int (((p4.toUInt32 >>> ((8 : Int32) &&& 31).toUInt32).toInt32) &&& (3 : Int32)))] [(.int (((p4.toUInt32 >>> ((8 : Int32) &&& 31).toUInt32).toInt32) &&& (3 : Int32)))])) _
  refine XS.iconst X10.here hx rfl (hb hby at_143) ?_
  show Steps p.tables e below (T10.setTop (mkF m 144 #[.val (.int p0), .val (.long q1), .second, .val (.int p2), .val (.long q3), .second, .val (.int p4), .val (.ref ra), .val (.ref rb), .val (.int how), .val (.long idB), .second, .val (.ref b1), .val (.ref b5), .val (.int (0 : Int32)), .val (.int (1 : Int32)), .val (.int (((p4.toUInt32 >>> ((8 : Int32) &&& 31).toUInt32).toInt32) &&& (3 : Int32)))] [(.int (1 : Int32)), (.int (((p4.toUInt32 >>> ((8 : Int32) &&& 31).toUInt32).toInt32) &&& (3 : Int32)))])) _
  refine XS.icmpYes X10.here hx rfl (pc0 := 144) (pc' := 171) rfl (hb hby at_144) rfl (feq hc144).2 (by decide) (by decide) ?_
  show Steps p.tables e below (T10.setTop (mkF m 171 #[.val (.int p0), .val (.long q1), .second, .val (.int p2), .val (.long q3), .second, .val (.int p4), .val (.ref ra), .val (.ref rb), .val (.int how), .val (.long idB), .second, .val (.ref b1), .val (.ref b5), .val (.int (0 : Int32)), .val (.int (1 : Int32)), .val (.int (((p4.toUInt32 >>> ((8 : Int32) &&& 31).toUInt32).toInt32) &&& (3 : Int32)))] [])) _
  refine XS.iload X10.here hx rfl (hb hby at_171) rfl ?_
  show Steps p.tables e below (T10.setTop (mkF m 173 #[.val (.int p0), .val (.long q1), .second, .val (.int p2), .val (.long q3), .second, .val (.int p4), .val (.ref ra), .val (.ref rb), .val (.int how), .val (.long idB), .second, .val (.ref b1), .val (.ref b5), .val (.int (0 : Int32)), .val (.int (1 : Int32)), .val (.int (((p4.toUInt32 >>> ((8 : Int32) &&& 31).toUInt32).toInt32) &&& (3 : Int32)))] [(.int (((p4.toUInt32 >>> ((8 : Int32) &&& 31).toUInt32).toInt32) &&& (3 : Int32)))])) _
  refine XS.iconst X10.here hx rfl (hb hby at_173) ?_
  show Steps p.tables e below (T10.setTop (mkF m 174 #[.val (.int p0), .val (.long q1), .second, .val (.int p2), .val (.long q3), .second, .val (.int p4), .val (.ref ra), .val (.ref rb), .val (.int how), .val (.long idB), .second, .val (.ref b1), .val (.ref b5), .val (.int (0 : Int32)), .val (.int (1 : Int32)), .val (.int (((p4.toUInt32 >>> ((8 : Int32) &&& 31).toUInt32).toInt32) &&& (3 : Int32)))] [(.int (2 : Int32)), (.int (((p4.toUInt32 >>> ((8 : Int32) &&& 31).toUInt32).toInt32) &&& (3 : Int32)))])) _
  refine XS.icmpYes X10.here hx rfl (pc0 := 174) (pc' := 204) rfl (hb hby at_174) rfl (feq hc174).2 (by decide) (by decide) ?_
  show Steps p.tables e below (T10.setTop (mkF m 204 #[.val (.int p0), .val (.long q1), .second, .val (.int p2), .val (.long q3), .second, .val (.int p4), .val (.ref ra), .val (.ref rb), .val (.int how), .val (.long idB), .second, .val (.ref b1), .val (.ref b5), .val (.int (0 : Int32)), .val (.int (1 : Int32)), .val (.int (((p4.toUInt32 >>> ((8 : Int32) &&& 31).toUInt32).toInt32) &&& (3 : Int32)))] [])) _
  refine XS.iload X10.here hx rfl (hb hby at_204) rfl ?_
  show Steps p.tables e below (T10.setTop (mkF m 206 #[.val (.int p0), .val (.long q1), .second, .val (.int p2), .val (.long q3), .second, .val (.int p4), .val (.ref ra), .val (.ref rb), .val (.int how), .val (.long idB), .second, .val (.ref b1), .val (.ref b5), .val (.int (0 : Int32)), .val (.int (1 : Int32)), .val (.int (((p4.toUInt32 >>> ((8 : Int32) &&& 31).toUInt32).toInt32) &&& (3 : Int32)))] [(.int (((p4.toUInt32 >>> ((8 : Int32) &&& 31).toUInt32).toInt32) &&& (3 : Int32)))])) _
  refine XS.iconst X10.here hx rfl (hb hby at_206) ?_
  show Steps p.tables e below (T10.setTop (mkF m 207 #[.val (.int p0), .val (.long q1), .second, .val (.int p2), .val (.long q3), .second, .val (.int p4), .val (.ref ra), .val (.ref rb), .val (.int how), .val (.long idB), .second, .val (.ref b1), .val (.ref b5), .val (.int (0 : Int32)), .val (.int (1 : Int32)), .val (.int (((p4.toUInt32 >>> ((8 : Int32) &&& 31).toUInt32).toInt32) &&& (3 : Int32)))] [(.int (3 : Int32)), (.int (((p4.toUInt32 >>> ((8 : Int32) &&& 31).toUInt32).toInt32) &&& (3 : Int32)))])) _
  refine XS.icmpYes X10.here hx rfl (pc0 := 207) (pc' := 232) rfl (hb hby at_207) rfl (feq hc207).2 (by decide) (by decide) ?_
  show Steps p.tables e below (T10.setTop (mkF m 232 #[.val (.int p0), .val (.long q1), .second, .val (.int p2), .val (.long q3), .second, .val (.int p4), .val (.ref ra), .val (.ref rb), .val (.int how), .val (.long idB), .second, .val (.ref b1), .val (.ref b5), .val (.int (0 : Int32)), .val (.int (1 : Int32)), .val (.int (((p4.toUInt32 >>> ((8 : Int32) &&& 31).toUInt32).toInt32) &&& (3 : Int32)))] [])) _
  refine XS.iload X10.here hx rfl (hb hby at_232) rfl ?_
  show Steps p.tables e below (T10.setTop (mkF m 234 #[.val (.int p0), .val (.long q1), .second, .val (.int p2), .val (.long q3), .second, .val (.int p4), .val (.ref ra), .val (.ref rb), .val (.int how), .val (.long idB), .second, .val (.ref b1), .val (.ref b5), .val (.int (0 : Int32)), .val (.int (1 : Int32)), .val (.int (((p4.toUInt32 >>> ((8 : Int32) &&& 31).toUInt32).toInt32) &&& (3 : Int32)))] [(.int (1 : Int32))])) _
  exact retN X10 hx (t := .boolean) hret (by simp) (hb hby at_234) hr
set_option maxRecDepth 65536 in
set_option maxHeartbeats 40000000 in
theorem tail_fttf (l : Launch) (Z : State) (a0 : Array Value) (hw : ∀ d ∈ tables_1, d.before a0 Z = true) (p0 : Int32) (q1 : Int64) (p2 : Int32) (q3 : Int64) (p4 : Int32) (ra : Addr) (rb : Addr) (how : Int32) (idB : Int64) (h0 : Heap) (n0 : Nat) (Z0 : n0 ≤ h0.size) (E_ra : Exa Z h0 ra "com/example/lessor/lessor/namespace/FileType") (E_rb : Exa Z h0 rb "com/example/lessor/lessor/namespace/FileType") (ha84 : ¬ (ra = rb)) (hc144 : ¬ ((((p4.toUInt32 >>> ((8 : Int32) &&& 31).toUInt32).toInt32) &&& (3 : Int32)) = (1 : Int32))) (hc174 : ¬ ((((p4.toUInt32 >>> ((8 : Int32) &&& 31).toUInt32).toInt32) &&& (3 : Int32)) = (2 : Int32))) (hc207 : (((p4.toUInt32 >>> ((8 : Int32) &&& 31).toUInt32).toInt32) &&& (3 : Int32)) = (3 : Int32))
    {p : Program} {e : Env} {s : State} {m : MethodId} {args : Array Value} {below : List Frame} {meth : Method} {c : Code} {s₁ : State} {locs : List Loc} (X0 : Stand p l e room_1 s m args below meth c s₁ locs 0 0) (N0 : Fr n0 locs) (hx : p.tables.exec = Jvm.exec) (hZ : Z.Warmed39 s.vm) (hby : c.code = code) (hml : c.maxLocals = 17) (hown : s.vm.findClass "com/example/lessor/lessor/namespace/BindingEqualsPinLaw" = some m.cls) (hret : meth.sig.returnType = ret) (hlk : meth.locks = false) (e0 : s₁.heap = h0) :
    ∃ s₂ o, Steps p.tables e below (s₁.setTop (mkF m 55 #[.val (.int p0), .val (.long q1), .second, .val (.int p2), .val (.long q3), .second, .val (.int p4), .val (.ref ra), .val (.ref rb), .val (.int how), .val (.long idB), .second, .unset, .unset, .unset, .unset, .unset] [])) s₂ ∧ s₂.status = .running ∧ Ended s₂ below o ∧ (∃ v L, o = .returned v ∧ (v = some (.int (1 : Int32)) ∧ Fr n0 L) ∧ FrameEnd s o s₂ L room_1.cells room_1.slots) := by
  obtain ⟨T1, h1, X1, e1, E1, A1, D1, -, st1⟩ := newO X0 hx hZ hown (hw _ (List.mem_of_getElem? (i := 9) rfl)) (hw _ (List.mem_of_getElem? (i := 10) rfl)) (hw _ (List.mem_of_getElem? (i := 11) rfl)) e0 (g := (mkF m 55 #[.val (.int p0), .val (.long q1), .second, .val (.int p2), .val (.long q3), .second, .val (.int p4), .val (.ref ra), .val (.ref rb), .val (.int how), .val (.long idB), .second, .unset, .unset, .unset, .unset, .unset] [])) rfl (hb hby at_55) (by decide) (by decide)
  obtain ⟨b1, g1⟩ : ∃ z, z = h0.size := ⟨_, rfl⟩
  rw [← g1] at A1 D1 st1
  have g_b1 : n0 ≤ b1 := Nat.le_trans Z0 (Nat.le_of_eq g1.symm)
  have sz_b1 : h0.size ≤ b1 := Nat.le_trans (Keep.refl h0 []).1 (Nat.le_of_eq g1.symm)
  have E_b1 := A1
  have F_type_b1 : Fld Z h1 b1 "com/example/lessor/lessor/namespace/Binding" "type" "Lcom/example/lessor/lessor/namespace/FileType;" .null := D1 (Or.inr (hw _ (List.mem_of_getElem? (i := 25) rfl))) (ty := (.object "com/example/lessor/lessor/namespace/FileType")) (by decide)
  have F_identifier_b1 : Fld Z h1 b1 "com/example/lessor/lessor/namespace/Binding" "identifier" "J" (.long (0 : Int64)) := D1 (Or.inr (hw _ (List.mem_of_getElem? (i := 27) rfl))) (ty := .long) (by decide)
  have K2 : Keep h0 h1 [] := (Keep.refl h0 []).ext E1
  obtain ⟨_, _, ⟨T3, L3, k3, n3⟩, -, X3, ⟨Lc3, hQ3, l3, y3, z3⟩, st3⟩ := X1.specialBack hx (y := (⟨"com/example/lessor/lessor/namespace/Binding", "<init>", "(Lcom/example/lessor/lessor/namespace/FileType;J)V"⟩ : MethodName)) rfl hown (mvT hZ (hw _ (List.mem_of_getElem? (i := 12) rfl))) (mvT hZ (hw _ (List.mem_of_getElem? (i := 13) rfl))) (mvT hZ (hw _ (List.mem_of_getElem? (i := 14) rfl))) (by decide) (backOf (W := 1) (rmBinding l Z a0 hw [] b1 ra q1 .null (.long (0 : Int64)) h1 n0 (Nat.le_trans Z0 K2.1) E_b1 (E_ra.ext E1) F_type_b1 g_b1 F_identifier_b1) hZ (hw _ (List.mem_of_getElem? (i := 14) rfl)) (hw _ (List.mem_of_getElem? (i := 11) rfl)) (by decide) (by decide)) (g := (mkF m 62 #[.val (.int p0), .val (.long q1), .second, .val (.int p2), .val (.long q3), .second, .val (.int p4), .val (.ref ra), .val (.ref rb), .val (.int how), .val (.long idB), .second, .unset, .unset, .unset, .unset, .unset] [(.long q1), (.ref ra), (.ref b1), (.ref b1)])) rfl (by rw [hml]; rfl) (Steps.refl _) (a := b1) (argsL := [(.ref ra), (.long q1)]) (rest := [(.ref b1)]) (lenOf pd__Lcom_example_lessor_lessor_namespace_FileType_J_V rfl) rfl (by show 2 * 0 + _ ≤ _; exact Nat.le_of_eq rfl) (hb hby at_62) (fun _ _ => ⟨rfl, e1, (by decide : 1 + 0 ≤ _), (by decide : 2 + 0 ≤ _)⟩)
  dsimp only [Pt.U, Pt.locs, Pt.cells, Pt.slots] at X3 l3 y3 z3 st3 hQ3
  subst l3 y3 z3
  obtain ⟨rfl, N3q, K3, E3, Ff3, Fd3⟩ := hQ3
  have K4 : Keep h0 T3.heap [] := K2.trans K3 (allS (P := fun x => x ∈ [] ∨ h0.size ≤ x) (Or.inr sz_b1) all0)
  have N3 := Fr.app N0 N3q
  obtain ⟨T5, h5, X5, e5, E5, A5, D5, -, st5⟩ := newO X3 hx hZ hown (hw _ (List.mem_of_getElem? (i := 9) rfl)) (hw _ (List.mem_of_getElem? (i := 10) rfl)) (hw _ (List.mem_of_getElem? (i := 11) rfl)) rfl (g := (mkF m 67 #[.val (.int p0), .val (.long q1), .second, .val (.int p2), .val (.long q3), .second, .val (.int p4), .val (.ref ra), .val (.ref rb), .val (.int how), .val (.long idB), .second, .val (.ref b1), .unset, .unset, .unset, .unset] [])) rfl (hb hby at_67) (by decide) (by decide)
  obtain ⟨b5, g5⟩ : ∃ z, z = T3.heap.size := ⟨_, rfl⟩
  rw [← g5] at A5 D5 st5
  have g_b5 : n0 ≤ b5 := Nat.le_trans (Nat.le_trans Z0 K4.1) (Nat.le_of_eq g5.symm)
  have sz_b5 : h0.size ≤ b5 := Nat.le_trans K4.1 (Nat.le_of_eq g5.symm)
  have E_b5 := A5
  have F_type_b5 : Fld Z h5 b5 "com/example/lessor/lessor/namespace/Binding" "type" "Lcom/example/lessor/lessor/namespace/FileType;" .null := D5 (Or.inr (hw _ (List.mem_of_getElem? (i := 25) rfl))) (ty := (.object "com/example/lessor/lessor/namespace/FileType")) (by decide)
  have F_identifier_b5 : Fld Z h5 b5 "com/example/lessor/lessor/namespace/Binding" "identifier" "J" (.long (0 : Int64)) := D5 (Or.inr (hw _ (List.mem_of_getElem? (i := 27) rfl))) (ty := .long) (by decide)
  have K6 : Keep h0 h5 [] := K4.ext E5
  obtain ⟨_, _, ⟨T7, L7, k7, n7⟩, -, X7, ⟨Lc7, hQ7, l7, y7, z7⟩, st7⟩ := X5.specialBack hx (y := (⟨"com/example/lessor/lessor/namespace/Binding", "<init>", "(Lcom/example/lessor/lessor/namespace/FileType;J)V"⟩ : MethodName)) rfl hown (mvT hZ (hw _ (List.mem_of_getElem? (i := 12) rfl))) (mvT hZ (hw _ (List.mem_of_getElem? (i := 13) rfl))) (mvT hZ (hw _ (List.mem_of_getElem? (i := 14) rfl))) (by decide) (backOf (W := 1) (rmBinding l Z a0 hw [] b5 rb idB .null (.long (0 : Int64)) h5 n0 (Nat.le_trans Z0 K6.1) E_b5 (((E_rb.ext E1).keep K3).ext E5) F_type_b5 g_b5 F_identifier_b5) hZ (hw _ (List.mem_of_getElem? (i := 14) rfl)) (hw _ (List.mem_of_getElem? (i := 11) rfl)) (by decide) (by decide)) (g := (mkF m 75 #[.val (.int p0), .val (.long q1), .second, .val (.int p2), .val (.long q3), .second, .val (.int p4), .val (.ref ra), .val (.ref rb), .val (.int how), .val (.long idB), .second, .val (.ref b1), .unset, .unset, .unset, .unset] [(.long idB), (.ref rb), (.ref b5), (.ref b5)])) rfl (by rw [hml]; rfl) (Steps.refl _) (a := b5) (argsL := [(.ref rb), (.long idB)]) (rest := [(.ref b5)]) (lenOf pd__Lcom_example_lessor_lessor_namespace_FileType_J_V rfl) rfl (by show 2 * 0 + _ ≤ _; exact Nat.le_of_eq rfl) (hb hby at_75) (fun _ _ => ⟨rfl, e5, (by decide : 2 + 0 ≤ _), (by decide : 4 + 0 ≤ _)⟩)
  dsimp only [Pt.U, Pt.locs, Pt.cells, Pt.slots] at X7 l7 y7 z7 st7 hQ7
  subst l7 y7 z7
  obtain ⟨rfl, N7q, K7, E7, Ff7, Fd7⟩ := hQ7
  have K8 : Keep h0 T7.heap [] := K6.trans K7 (allS (P := fun x => x ∈ [] ∨ h0.size ≤ x) (Or.inr sz_b5) all0)
  have N7 := Fr.app N3 N7q
  have ne_b1_b5 : b1 ≠ b5 := Nat.ne_of_lt (Nat.lt_of_lt_of_le E3.lt (Nat.le_of_eq g5.symm))
  obtain ⟨cq9, kq9, q9a, q9b, q9c⟩ := isOf hZ rfl ((E3.ext E5).keep K7)
  obtain ⟨_, _, ⟨T9, L9, k9, n9⟩, -, X9, ⟨Lc9, hQ9, l9, y9, z9⟩, st9⟩ := X7.virtualBack hx (y := (⟨"com/example/lessor/lessor/namespace/Binding", "equals", "(Ljava/lang/Object;)Z"⟩ : MethodName)) (z := (⟨"com/example/lessor/lessor/namespace/Binding", "equals", "(Ljava/lang/Object;)Z"⟩ : MethodName)) hown (mvT hZ (hw _ (List.mem_of_getElem? (i := 28) rfl))) (mvT hZ (hw _ (List.mem_of_getElem? (i := 29) rfl))) (notFace_of_selects (args := #[]) (mvT hZ (hw _ (List.mem_of_getElem? (i := 31) rfl)))) (mvT hZ (hw _ (List.mem_of_getElem? (i := 31) rfl))) (mvT hZ (hw _ (List.mem_of_getElem? (i := 30) rfl))) (by decide) (backOf (W := 0) (rmEq_f l Z a0 hw [] b1 b5 ra rb T7.heap n0 (Nat.le_trans Z0 K8.1) E7 ((Ff3.ext E5).keep K7 (ninS ne_b1_b5 nin0)) Ff7 ha84) hZ (hw _ (List.mem_of_getElem? (i := 32) rfl)) (hw _ (List.mem_of_getElem? (i := 11) rfl)) (by decide) (by decide)) q9a q9c (g := (mkF m 105 #[.val (.int p0), .val (.long q1), .second, .val (.int p2), .val (.long q3), .second, .val (.int p4), .val (.ref ra), .val (.ref rb), .val (.int how), .val (.long idB), .second, .val (.ref b1), .val (.ref b5), .val (.int (0 : Int32)), .unset, .unset] [(.ref b5), (.ref b1)])) rfl (by rw [hml]; rfl) (Steps.refl _) (argsL := [(.ref b5)]) (rest := []) (lenOf pd__Ljava_lang_Object__Z rfl) rfl (by show 2 * 0 + _ ≤ _; exact Nat.le_of_eq rfl) (hb hby at_105) (fun _ _ => ⟨rfl, rfl, (by decide : 2 + 0 ≤ _), (by decide : 4 + 0 ≤ _)⟩)
  dsimp only [Pt.U, Pt.locs, Pt.cells, Pt.slots] at X9 l9 y9 z9 st9 hQ9
  subst l9 y9 z9
  obtain ⟨rfl, N9q, e9⟩ := hQ9
  have N9 := Fr.app N7 N9q
  obtain ⟨cq10, kq10, q10a, q10b, q10c⟩ := isOf hZ e9 E7
  obtain ⟨_, _, ⟨T10, L10, k10, n10⟩, -, X10, ⟨Lc10, hQ10, l10, y10, z10⟩, st10⟩ := X9.virtualBack hx (y := (⟨"com/example/lessor/lessor/namespace/Binding", "equals", "(Ljava/lang/Object;)Z"⟩ : MethodName)) (z := (⟨"com/example/lessor/lessor/namespace/Binding", "equals", "(Ljava/lang/Object;)Z"⟩ : MethodName)) hown (mvT hZ (hw _ (List.mem_of_getElem? (i := 28) rfl))) (mvT hZ (hw _ (List.mem_of_getElem? (i := 29) rfl))) (notFace_of_selects (args := #[]) (mvT hZ (hw _ (List.mem_of_getElem? (i := 31) rfl)))) (mvT hZ (hw _ (List.mem_of_getElem? (i := 31) rfl))) (mvT hZ (hw _ (List.mem_of_getElem? (i := 30) rfl))) (by decide) (backOf (W := 0) (rmEq_f l Z a0 hw [] b5 b1 rb ra T7.heap n0 (Nat.le_trans Z0 K8.1) ((E3.ext E5).keep K7) Ff7 ((Ff3.ext E5).keep K7 (ninS ne_b1_b5 nin0)) (fun q => ha84 (Eq.symm q))) hZ (hw _ (List.mem_of_getElem? (i := 32) rfl)) (hw _ (List.mem_of_getElem? (i := 11) rfl)) (by decide) (by decide)) q10a q10c (g := (mkF m 117 #[.val (.int p0), .val (.long q1), .second, .val (.int p2), .val (.long q3), .second, .val (.int p4), .val (.ref ra), .val (.ref rb), .val (.int how), .val (.long idB), .second, .val (.ref b1), .val (.ref b5), .val (.int (0 : Int32)), .unset, .unset] [(.ref b1), (.ref b5)])) rfl (by rw [hml]; rfl) (Steps.refl _) (argsL := [(.ref b1)]) (rest := []) (lenOf pd__Ljava_lang_Object__Z rfl) rfl (by show 2 * 0 + _ ≤ _; exact Nat.le_of_eq rfl) (hb hby at_117) (fun _ _ => ⟨rfl, e9, (by decide : 2 + 0 ≤ _), (by decide : 4 + 0 ≤ _)⟩)
  dsimp only [Pt.U, Pt.locs, Pt.cells, Pt.slots] at X10 l10 y10 z10 st10 hQ10
  subst l10 y10 z10
  obtain ⟨rfl, N10q, e10⟩ := hQ10
  have N10 := Fr.app N9 N10q
  obtain ⟨cq11, kq11, q11a, q11b, q11c⟩ := isOf hZ e10 ((E3.ext E5).keep K7)
  obtain ⟨_, _, ⟨T11, L11, k11, n11⟩, -, X11, ⟨Lc11, hQ11, l11, y11, z11⟩, st11⟩ := X10.virtualBack hx (y := (⟨"com/example/lessor/lessor/namespace/Binding", "equals", "(Ljava/lang/Object;)Z"⟩ : MethodName)) (z := (⟨"com/example/lessor/lessor/namespace/Binding", "equals", "(Ljava/lang/Object;)Z"⟩ : MethodName)) hown (mvT hZ (hw _ (List.mem_of_getElem? (i := 28) rfl))) (mvT hZ (hw _ (List.mem_of_getElem? (i := 29) rfl))) (notFace_of_selects (args := #[]) (mvT hZ (hw _ (List.mem_of_getElem? (i := 31) rfl)))) (mvT hZ (hw _ (List.mem_of_getElem? (i := 31) rfl))) (mvT hZ (hw _ (List.mem_of_getElem? (i := 30) rfl))) (by decide) (backOf (W := 0) (rmEq_tf l Z a0 hw [] b1 b1 ra ra q1 q1 T7.heap n0 (Nat.le_trans Z0 K8.1) ((E3.ext E5).keep K7) ((Ff3.ext E5).keep K7 (ninS ne_b1_b5 nin0)) ((Ff3.ext E5).keep K7 (ninS ne_b1_b5 nin0)) rfl ((Fd3.ext E5).keep K7 (ninS ne_b1_b5 nin0)) ((Fd3.ext E5).keep K7 (ninS ne_b1_b5 nin0)) rfl) hZ (hw _ (List.mem_of_getElem? (i := 32) rfl)) (hw _ (List.mem_of_getElem? (i := 11) rfl)) (by decide) (by decide)) q11a q11c (g := (mkF m 219 #[.val (.int p0), .val (.long q1), .second, .val (.int p2), .val (.long q3), .second, .val (.int p4), .val (.ref ra), .val (.ref rb), .val (.int how), .val (.long idB), .second, .val (.ref b1), .val (.ref b5), .val (.int (0 : Int32)), .val (.int (1 : Int32)), .val (.int (((p4.toUInt32 >>> ((8 : Int32) &&& 31).toUInt32).toInt32) &&& (3 : Int32)))] [(.ref b1), (.ref b1)])) rfl (by rw [hml]; rfl) (Steps.refl _) (argsL := [(.ref b1)]) (rest := []) (lenOf pd__Ljava_lang_Object__Z rfl) rfl (by show 2 * 0 + _ ≤ _; exact Nat.le_of_eq rfl) (hb hby at_219) (fun _ _ => ⟨rfl, e10, (by decide : 2 + 0 ≤ _), (by decide : 4 + 0 ≤ _)⟩)
  dsimp only [Pt.U, Pt.locs, Pt.cells, Pt.slots] at X11 l11 y11 z11 st11 hQ11
  subst l11 y11 z11
  obtain ⟨rfl, N11q, e11⟩ := hQ11
  have N11 := Fr.app N10 N11q
  obtain ⟨fs, hr, hrun, hended, hW, hsame⟩ := X11.leave (v := some (.int (1 : Int32))) (fun h => by rw [hret] at h; cases h)
  refine ⟨_, _, ?_, hrun, hended, _, _, rfl, ⟨rfl, N11⟩, ⟨_, rfl⟩, hW, hsame.mono (by decide) (by decide)⟩
  show Steps p.tables e below (s₁.setTop (mkF m 55 #[.val (.int p0), .val (.long q1), .second, .val (.int p2), .val (.long q3), .second, .val (.int p4), .val (.ref ra), .val (.ref rb), .val (.int how), .val (.long idB), .second, .unset, .unset, .unset, .unset, .unset] [])) _
  refine st1 _ ?_
  show Steps p.tables e below (T1.setTop (mkF m 58 #[.val (.int p0), .val (.long q1), .second, .val (.int p2), .val (.long q3), .second, .val (.int p4), .val (.ref ra), .val (.ref rb), .val (.int how), .val (.long idB), .second, .unset, .unset, .unset, .unset, .unset] [(.ref b1)])) _
  refine XS.dup X1.here hx rfl (hb hby at_58) rfl rfl ?_
  show Steps p.tables e below (T1.setTop (mkF m 59 #[.val (.int p0), .val (.long q1), .second, .val (.int p2), .val (.long q3), .second, .val (.int p4), .val (.ref ra), .val (.ref rb), .val (.int how), .val (.long idB), .second, .unset, .unset, .unset, .unset, .unset] [(.ref b1), (.ref b1)])) _
  refine XS.aload X1.here hx rfl (hb hby at_59) rfl rfl ?_
  show Steps p.tables e below (T1.setTop (mkF m 61 #[.val (.int p0), .val (.long q1), .second, .val (.int p2), .val (.long q3), .second, .val (.int p4), .val (.ref ra), .val (.ref rb), .val (.int how), .val (.long idB), .second, .unset, .unset, .unset, .unset, .unset] [(.ref ra), (.ref b1), (.ref b1)])) _
  refine XS.lloadN X1.here hx rfl (hb hby at_61) rfl ?_
  show Steps p.tables e below (T1.setTop (mkF m 62 #[.val (.int p0), .val (.long q1), .second, .val (.int p2), .val (.long q3), .second, .val (.int p4), .val (.ref ra), .val (.ref rb), .val (.int how), .val (.long idB), .second, .unset, .unset, .unset, .unset, .unset] [(.long q1), (.ref ra), (.ref b1), (.ref b1)])) _
  refine st3.trans ?_
  show Steps p.tables e below (T3.setTop (mkF m 65 #[.val (.int p0), .val (.long q1), .second, .val (.int p2), .val (.long q3), .second, .val (.int p4), .val (.ref ra), .val (.ref rb), .val (.int how), .val (.long idB), .second, .unset, .unset, .unset, .unset, .unset] [(.ref b1)])) _
  refine XS.astore X3.here hx rfl (hb hby at_65) rfl rfl (l' := #[.val (.int p0), .val (.long q1), .second, .val (.int p2), .val (.long q3), .second, .val (.int p4), .val (.ref ra), .val (.ref rb), .val (.int how), .val (.long idB), .second, .val (.ref b1), .unset, .unset, .unset, .unset]) rfl ?_
  show Steps p.tables e below (T3.setTop (mkF m 67 #[.val (.int p0), .val (.long q1), .second, .val (.int p2), .val (.long q3), .second, .val (.int p4), .val (.ref ra), .val (.ref rb), .val (.int how), .val (.long idB), .second, .val (.ref b1), .unset, .unset, .unset, .unset] [])) _
  refine st5 _ ?_
  show Steps p.tables e below (T5.setTop (mkF m 70 #[.val (.int p0), .val (.long q1), .second, .val (.int p2), .val (.long q3), .second, .val (.int p4), .val (.ref ra), .val (.ref rb), .val (.int how), .val (.long idB), .second, .val (.ref b1), .unset, .unset, .unset, .unset] [(.ref b5)])) _
  refine XS.dup X5.here hx rfl (hb hby at_70) rfl rfl ?_
  show Steps p.tables e below (T5.setTop (mkF m 71 #[.val (.int p0), .val (.long q1), .second, .val (.int p2), .val (.long q3), .second, .val (.int p4), .val (.ref ra), .val (.ref rb), .val (.int how), .val (.long idB), .second, .val (.ref b1), .unset, .unset, .unset, .unset] [(.ref b5), (.ref b5)])) _
  refine XS.aload X5.here hx rfl (hb hby at_71) rfl rfl ?_
  show Steps p.tables e below (T5.setTop (mkF m 73 #[.val (.int p0), .val (.long q1), .second, .val (.int p2), .val (.long q3), .second, .val (.int p4), .val (.ref ra), .val (.ref rb), .val (.int how), .val (.long idB), .second, .val (.ref b1), .unset, .unset, .unset, .unset] [(.ref rb), (.ref b5), (.ref b5)])) _
  refine XS.lload X5.here hx rfl (hb hby at_73) rfl ?_
  show Steps p.tables e below (T5.setTop (mkF m 75 #[.val (.int p0), .val (.long q1), .second, .val (.int p2), .val (.long q3), .second, .val (.int p4), .val (.ref ra), .val (.ref rb), .val (.int how), .val (.long idB), .second, .val (.ref b1), .unset, .unset, .unset, .unset] [(.long idB), (.ref rb), (.ref b5), (.ref b5)])) _
  refine st7.trans ?_
  show Steps p.tables e below (T7.setTop (mkF m 78 #[.val (.int p0), .val (.long q1), .second, .val (.int p2), .val (.long q3), .second, .val (.int p4), .val (.ref ra), .val (.ref rb), .val (.int how), .val (.long idB), .second, .val (.ref b1), .unset, .unset, .unset, .unset] [(.ref b5)])) _
  refine XS.astore X7.here hx rfl (hb hby at_78) rfl rfl (l' := #[.val (.int p0), .val (.long q1), .second, .val (.int p2), .val (.long q3), .second, .val (.int p4), .val (.ref ra), .val (.ref rb), .val (.int how), .val (.long idB), .second, .val (.ref b1), .val (.ref b5), .unset, .unset, .unset]) rfl ?_
  show Steps p.tables e below (T7.setTop (mkF m 80 #[.val (.int p0), .val (.long q1), .second, .val (.int p2), .val (.long q3), .second, .val (.int p4), .val (.ref ra), .val (.ref rb), .val (.int how), .val (.long idB), .second, .val (.ref b1), .val (.ref b5), .unset, .unset, .unset] [])) _
  refine XS.aload X7.here hx rfl (hb hby at_80) rfl rfl ?_
  show Steps p.tables e below (T7.setTop (mkF m 82 #[.val (.int p0), .val (.long q1), .second, .val (.int p2), .val (.long q3), .second, .val (.int p4), .val (.ref ra), .val (.ref rb), .val (.int how), .val (.long idB), .second, .val (.ref b1), .val (.ref b5), .unset, .unset, .unset] [(.ref ra)])) _
  refine XS.aload X7.here hx rfl (hb hby at_82) rfl rfl ?_
  show Steps p.tables e below (T7.setTop (mkF m 84 #[.val (.int p0), .val (.long q1), .second, .val (.int p2), .val (.long q3), .second, .val (.int p4), .val (.ref ra), .val (.ref rb), .val (.int how), .val (.long idB), .second, .val (.ref b1), .val (.ref b5), .unset, .unset, .unset] [(.ref rb), (.ref ra)])) _
  refine Jvm.RoadKit.acmp (g := (mkF m 84 #[.val (.int p0), .val (.long q1), .second, .val (.int p2), .val (.long q3), .second, .val (.int p4), .val (.ref ra), .val (.ref rb), .val (.int how), .val (.long idB), .second, .val (.ref b1), .val (.ref b5), .unset, .unset, .unset] [(.ref rb), (.ref ra)])) X7 hx rfl rfl rfl (pc0 := 84) (pc' := 98) (same := false) rfl (hb hby at_84) rfl (decide_eq_false fun q => ha84 (Value.ref.inj q)) (by decide) (by decide) ?_
  show Steps p.tables e below (T7.setTop (mkF m 98 #[.val (.int p0), .val (.long q1), .second, .val (.int p2), .val (.long q3), .second, .val (.int p4), .val (.ref ra), .val (.ref rb), .val (.int how), .val (.long idB), .second, .val (.ref b1), .val (.ref b5), .unset, .unset, .unset] [])) _
  refine XS.iconst X7.here hx rfl (hb hby at_98) ?_
  show Steps p.tables e below (T7.setTop (mkF m 99 #[.val (.int p0), .val (.long q1), .second, .val (.int p2), .val (.long q3), .second, .val (.int p4), .val (.ref ra), .val (.ref rb), .val (.int how), .val (.long idB), .second, .val (.ref b1), .val (.ref b5), .unset, .unset, .unset] [(.int (0 : Int32))])) _
  refine XS.istore X7.here hx rfl (hb hby at_99) rfl (l' := #[.val (.int p0), .val (.long q1), .second, .val (.int p2), .val (.long q3), .second, .val (.int p4), .val (.ref ra), .val (.ref rb), .val (.int how), .val (.long idB), .second, .val (.ref b1), .val (.ref b5), .val (.int (0 : Int32)), .unset, .unset]) rfl ?_
  show Steps p.tables e below (T7.setTop (mkF m 101 #[.val (.int p0), .val (.long q1), .second, .val (.int p2), .val (.long q3), .second, .val (.int p4), .val (.ref ra), .val (.ref rb), .val (.int how), .val (.long idB), .second, .val (.ref b1), .val (.ref b5), .val (.int (0 : Int32)), .unset, .unset] [])) _
  refine XS.aload X7.here hx rfl (hb hby at_101) rfl rfl ?_
  show Steps p.tables e below (T7.setTop (mkF m 103 #[.val (.int p0), .val (.long q1), .second, .val (.int p2), .val (.long q3), .second, .val (.int p4), .val (.ref ra), .val (.ref rb), .val (.int how), .val (.long idB), .second, .val (.ref b1), .val (.ref b5), .val (.int (0 : Int32)), .unset, .unset] [(.ref b1)])) _
  refine XS.aload X7.here hx rfl (hb hby at_103) rfl rfl ?_
  show Steps p.tables e below (T7.setTop (mkF m 105 #[.val (.int p0), .val (.long q1), .second, .val (.int p2), .val (.long q3), .second, .val (.int p4), .val (.ref ra), .val (.ref rb), .val (.int how), .val (.long idB), .second, .val (.ref b1), .val (.ref b5), .val (.int (0 : Int32)), .unset, .unset] [(.ref b5), (.ref b1)])) _
  refine st9.trans ?_
  show Steps p.tables e below (T9.setTop (mkF m 108 #[.val (.int p0), .val (.long q1), .second, .val (.int p2), .val (.long q3), .second, .val (.int p4), .val (.ref ra), .val (.ref rb), .val (.int how), .val (.long idB), .second, .val (.ref b1), .val (.ref b5), .val (.int (0 : Int32)), .unset, .unset] [(.int (0 : Int32))])) _
  refine XS.iload X9.here hx rfl (hb hby at_108) rfl ?_
  show Steps p.tables e below (T9.setTop (mkF m 110 #[.val (.int p0), .val (.long q1), .second, .val (.int p2), .val (.long q3), .second, .val (.int p4), .val (.ref ra), .val (.ref rb), .val (.int how), .val (.long idB), .second, .val (.ref b1), .val (.ref b5), .val (.int (0 : Int32)), .unset, .unset] [(.int (0 : Int32)), (.int (0 : Int32))])) _
  refine XS.icmpNo X9.here hx rfl (hb hby at_110) rfl (teq (by decide)).2 ?_
  show Steps p.tables e below (T9.setTop (mkF m 113 #[.val (.int p0), .val (.long q1), .second, .val (.int p2), .val (.long q3), .second, .val (.int p4), .val (.ref ra), .val (.ref rb), .val (.int how), .val (.long idB), .second, .val (.ref b1), .val (.ref b5), .val (.int (0 : Int32)), .unset, .unset] [])) _
  refine XS.aload X9.here hx rfl (hb hby at_113) rfl rfl ?_
  show Steps p.tables e below (T9.setTop (mkF m 115 #[.val (.int p0), .val (.long q1), .second, .val (.int p2), .val (.long q3), .second, .val (.int p4), .val (.ref ra), .val (.ref rb), .val (.int how), .val (.long idB), .second, .val (.ref b1), .val (.ref b5), .val (.int (0 : Int32)), .unset, .unset] [(.ref b5)])) _
  refine XS.aload X9.here hx rfl (hb hby at_115) rfl rfl ?_
  show Steps p.tables e below (T9.setTop (mkF m 117 #[.val (.int p0), .val (.long q1), .second, .val (.int p2), .val (.long q3), .second, .val (.int p4), .val (.ref ra), .val (.ref rb), .val (.int how), .val (.long idB), .second, .val (.ref b1), .val (.ref b5), .val (.int (0 : Int32)), .unset, .unset] [(.ref b1), (.ref b5)])) _
  refine st10.trans ?_
  show Steps p.tables e below (T10.setTop (mkF m 120 #[.val (.int p0), .val (.long q1), .second, .val (.int p2), .val (.long q3), .second, .val (.int p4), .val (.ref ra), .val (.ref rb), .val (.int how), .val (.long idB), .second, .val (.ref b1), .val (.ref b5), .val (.int (0 : Int32)), .unset, .unset] [(.int (0 : Int32))])) _
  refine XS.iload X10.here hx rfl (hb hby at_120) rfl ?_
  show Steps p.tables e below (T10.setTop (mkF m 122 #[.val (.int p0), .val (.long q1), .second, .val (.int p2), .val (.long q3), .second, .val (.int p4), .val (.ref ra), .val (.ref rb), .val (.int how), .val (.long idB), .second, .val (.ref b1), .val (.ref b5), .val (.int (0 : Int32)), .unset, .unset] [(.int (0 : Int32)), (.int (0 : Int32))])) _
  refine XS.icmpNo X10.here hx rfl (hb hby at_122) rfl (teq (by decide)).2 ?_
  show Steps p.tables e below (T10.setTop (mkF m 125 #[.val (.int p0), .val (.long q1), .second, .val (.int p2), .val (.long q3), .second, .val (.int p4), .val (.ref ra), .val (.ref rb), .val (.int how), .val (.long idB), .second, .val (.ref b1), .val (.ref b5), .val (.int (0 : Int32)), .unset, .unset] [])) _
  refine XS.iconst X10.here hx rfl (hb hby at_125) ?_
  show Steps p.tables e below (T10.setTop (mkF m 126 #[.val (.int p0), .val (.long q1), .second, .val (.int p2), .val (.long q3), .second, .val (.int p4), .val (.ref ra), .val (.ref rb), .val (.int how), .val (.long idB), .second, .val (.ref b1), .val (.ref b5), .val (.int (0 : Int32)), .unset, .unset] [(.int (1 : Int32))])) _
  refine XS.goto X10.here hx rfl (pc0 := 126) (pc' := 130) rfl (hb hby at_126) (by decide) (by decide) ?_
  show Steps p.tables e below (T10.setTop (mkF m 130 #[.val (.int p0), .val (.long q1), .second, .val (.int p2), .val (.long q3), .second, .val (.int p4), .val (.ref ra), .val (.ref rb), .val (.int how), .val (.long idB), .second, .val (.ref b1), .val (.ref b5), .val (.int (0 : Int32)), .unset, .unset] [(.int (1 : Int32))])) _
  refine XS.istore X10.here hx rfl (hb hby at_130) rfl (l' := #[.val (.int p0), .val (.long q1), .second, .val (.int p2), .val (.long q3), .second, .val (.int p4), .val (.ref ra), .val (.ref rb), .val (.int how), .val (.long idB), .second, .val (.ref b1), .val (.ref b5), .val (.int (0 : Int32)), .val (.int (1 : Int32)), .unset]) rfl ?_
  show Steps p.tables e below (T10.setTop (mkF m 132 #[.val (.int p0), .val (.long q1), .second, .val (.int p2), .val (.long q3), .second, .val (.int p4), .val (.ref ra), .val (.ref rb), .val (.int how), .val (.long idB), .second, .val (.ref b1), .val (.ref b5), .val (.int (0 : Int32)), .val (.int (1 : Int32)), .unset] [])) _
  refine XS.iload X10.here hx rfl (hb hby at_132) rfl ?_
  show Steps p.tables e below (T10.setTop (mkF m 134 #[.val (.int p0), .val (.long q1), .second, .val (.int p2), .val (.long q3), .second, .val (.int p4), .val (.ref ra), .val (.ref rb), .val (.int how), .val (.long idB), .second, .val (.ref b1), .val (.ref b5), .val (.int (0 : Int32)), .val (.int (1 : Int32)), .unset] [(.int p4)])) _
  refine XS.bipush X10.here hx rfl (hb hby at_134) ?_
  show Steps p.tables e below (T10.setTop (mkF m 136 #[.val (.int p0), .val (.long q1), .second, .val (.int p2), .val (.long q3), .second, .val (.int p4), .val (.ref ra), .val (.ref rb), .val (.int how), .val (.long idB), .second, .val (.ref b1), .val (.ref b5), .val (.int (0 : Int32)), .val (.int (1 : Int32)), .unset] [(.int (8 : Int32)), (.int p4)])) _
  refine XS.iushr X10.here hx rfl (hb hby at_136) rfl ?_
  show Steps p.tables e below (T10.setTop (mkF m 137 #[.val (.int p0), .val (.long q1), .second, .val (.int p2), .val (.long q3), .second, .val (.int p4), .val (.ref ra), .val (.ref rb), .val (.int how), .val (.long idB), .second, .val (.ref b1), .val (.ref b5), .val (.int (0 : Int32)), .val (.int (1 : Int32)), .unset] [(.int ((p4.toUInt32 >>> ((8 : Int32) &&& 31).toUInt32).toInt32))])) _
  refine XS.iconst X10.here hx rfl (hb hby at_137) ?_
  show Steps p.tables e below (T10.setTop (mkF m 138 #[.val (.int p0), .val (.long q1), .second, .val (.int p2), .val (.long q3), .second, .val (.int p4), .val (.ref ra), .val (.ref rb), .val (.int how), .val (.long idB), .second, .val (.ref b1), .val (.ref b5), .val (.int (0 : Int32)), .val (.int (1 : Int32)), .unset] [(.int (3 : Int32)), (.int ((p4.toUInt32 >>> ((8 : Int32) &&& 31).toUInt32).toInt32))])) _
  refine XS.iand X10.here hx rfl (hb hby at_138) rfl ?_
  show Steps p.tables e below (T10.setTop (mkF m 139 #[.val (.int p0), .val (.long q1), .second, .val (.int p2), .val (.long q3), .second, .val (.int p4), .val (.ref ra), .val (.ref rb), .val (.int how), .val (.long idB), .second, .val (.ref b1), .val (.ref b5), .val (.int (0 : Int32)), .val (.int (1 : Int32)), .unset] [(.int (((p4.toUInt32 >>> ((8 : Int32) &&& 31).toUInt32).toInt32) &&& (3 : Int32)))])) _
  refine XS.istore X10.here hx rfl (hb hby at_139) rfl (l' := #[.val (.int p0), .val (.long q1), .second, .val (.int p2), .val (.long q3), .second, .val (.int p4), .val (.ref ra), .val (.ref rb), .val (.int how), .val (.long idB), .second, .val (.ref b1), .val (.ref b5), .val (.int (0 : Int32)), .val (.int (1 : Int32)), .val (.int (((p4.toUInt32 >>> ((8 : Int32) &&& 31).toUInt32).toInt32) &&& (3 : Int32)))]) rfl ?_
  show Steps p.tables e below (T10.setTop (mkF m 141 #[.val (.int p0), .val (.long q1), .second, .val (.int p2), .val (.long q3), .second, .val (.int p4), .val (.ref ra), .val (.ref rb), .val (.int how), .val (.long idB), .second, .val (.ref b1), .val (.ref b5), .val (.int (0 : Int32)), .val (.int (1 : Int32)), .val (.int (((p4.toUInt32 >>> ((8 : Int32) &&& 31).toUInt32).toInt32) &&& (3 : Int32)))] [])) _
  refine XS.iload X10.here hx rfl (hb hby at_141) rfl ?_
  show Steps p.tables e below (T10.setTop (mkF m 143 #[.val (.int p0), .val (.long q1), .second, .val (.int p2), .val (.long q3), .second, .val (.int p4), .val (.ref ra), .val (.ref rb), .val (.int how), .val (.long idB), .second, .val (.ref b1), .val (.ref b5), .val (.int (0 : Int32)), .val (.int (1 : Int32)), .val (.int (((p4.toUInt32 >>> ((8 : Int32) &&& 31).toUInt32).toInt32) &&& (3 : Int32)))] [(.int (((p4.toUInt32 >>> ((8 : Int32) &&& 31).toUInt32).toInt32) &&& (3 : Int32)))])) _
  refine XS.iconst X10.here hx rfl (hb hby at_143) ?_
  show Steps p.tables e below (T10.setTop (mkF m 144 #[.val (.int p0), .val (.long q1), .second, .val (.int p2), .val (.long q3), .second, .val (.int p4), .val (.ref ra), .val (.ref rb), .val (.int how), .val (.long idB), .second, .val (.ref b1), .val (.ref b5), .val (.int (0 : Int32)), .val (.int (1 : Int32)), .val (.int (((p4.toUInt32 >>> ((8 : Int32) &&& 31).toUInt32).toInt32) &&& (3 : Int32)))] [(.int (1 : Int32)), (.int (((p4.toUInt32 >>> ((8 : Int32) &&& 31).toUInt32).toInt32) &&& (3 : Int32)))])) _
  refine XS.icmpYes X10.here hx rfl (pc0 := 144) (pc' := 171) rfl (hb hby at_144) rfl (feq hc144).2 (by decide) (by decide) ?_
  show Steps p.tables e below (T10.setTop (mkF m 171 #[.val (.int p0), .val (.long q1), .second, .val (.int p2), .val (.long q3), .second, .val (.int p4), .val (.ref ra), .val (.ref rb), .val (.int how), .val (.long idB), .second, .val (.ref b1), .val (.ref b5), .val (.int (0 : Int32)), .val (.int (1 : Int32)), .val (.int (((p4.toUInt32 >>> ((8 : Int32) &&& 31).toUInt32).toInt32) &&& (3 : Int32)))] [])) _
  refine XS.iload X10.here hx rfl (hb hby at_171) rfl ?_
  show Steps p.tables e below (T10.setTop (mkF m 173 #[.val (.int p0), .val (.long q1), .second, .val (.int p2), .val (.long q3), .second, .val (.int p4), .val (.ref ra), .val (.ref rb), .val (.int how), .val (.long idB), .second, .val (.ref b1), .val (.ref b5), .val (.int (0 : Int32)), .val (.int (1 : Int32)), .val (.int (((p4.toUInt32 >>> ((8 : Int32) &&& 31).toUInt32).toInt32) &&& (3 : Int32)))] [(.int (((p4.toUInt32 >>> ((8 : Int32) &&& 31).toUInt32).toInt32) &&& (3 : Int32)))])) _
  refine XS.iconst X10.here hx rfl (hb hby at_173) ?_
  show Steps p.tables e below (T10.setTop (mkF m 174 #[.val (.int p0), .val (.long q1), .second, .val (.int p2), .val (.long q3), .second, .val (.int p4), .val (.ref ra), .val (.ref rb), .val (.int how), .val (.long idB), .second, .val (.ref b1), .val (.ref b5), .val (.int (0 : Int32)), .val (.int (1 : Int32)), .val (.int (((p4.toUInt32 >>> ((8 : Int32) &&& 31).toUInt32).toInt32) &&& (3 : Int32)))] [(.int (2 : Int32)), (.int (((p4.toUInt32 >>> ((8 : Int32) &&& 31).toUInt32).toInt32) &&& (3 : Int32)))])) _
  refine XS.icmpYes X10.here hx rfl (pc0 := 174) (pc' := 204) rfl (hb hby at_174) rfl (feq hc174).2 (by decide) (by decide) ?_
  show Steps p.tables e below (T10.setTop (mkF m 204 #[.val (.int p0), .val (.long q1), .second, .val (.int p2), .val (.long q3), .second, .val (.int p4), .val (.ref ra), .val (.ref rb), .val (.int how), .val (.long idB), .second, .val (.ref b1), .val (.ref b5), .val (.int (0 : Int32)), .val (.int (1 : Int32)), .val (.int (((p4.toUInt32 >>> ((8 : Int32) &&& 31).toUInt32).toInt32) &&& (3 : Int32)))] [])) _
  refine XS.iload X10.here hx rfl (hb hby at_204) rfl ?_
  show Steps p.tables e below (T10.setTop (mkF m 206 #[.val (.int p0), .val (.long q1), .second, .val (.int p2), .val (.long q3), .second, .val (.int p4), .val (.ref ra), .val (.ref rb), .val (.int how), .val (.long idB), .second, .val (.ref b1), .val (.ref b5), .val (.int (0 : Int32)), .val (.int (1 : Int32)), .val (.int (((p4.toUInt32 >>> ((8 : Int32) &&& 31).toUInt32).toInt32) &&& (3 : Int32)))] [(.int (((p4.toUInt32 >>> ((8 : Int32) &&& 31).toUInt32).toInt32) &&& (3 : Int32)))])) _
  refine XS.iconst X10.here hx rfl (hb hby at_206) ?_
  show Steps p.tables e below (T10.setTop (mkF m 207 #[.val (.int p0), .val (.long q1), .second, .val (.int p2), .val (.long q3), .second, .val (.int p4), .val (.ref ra), .val (.ref rb), .val (.int how), .val (.long idB), .second, .val (.ref b1), .val (.ref b5), .val (.int (0 : Int32)), .val (.int (1 : Int32)), .val (.int (((p4.toUInt32 >>> ((8 : Int32) &&& 31).toUInt32).toInt32) &&& (3 : Int32)))] [(.int (3 : Int32)), (.int (((p4.toUInt32 >>> ((8 : Int32) &&& 31).toUInt32).toInt32) &&& (3 : Int32)))])) _
  refine XS.icmpNo X10.here hx rfl (hb hby at_207) rfl (teq hc207).2 ?_
  show Steps p.tables e below (T10.setTop (mkF m 210 #[.val (.int p0), .val (.long q1), .second, .val (.int p2), .val (.long q3), .second, .val (.int p4), .val (.ref ra), .val (.ref rb), .val (.int how), .val (.long idB), .second, .val (.ref b1), .val (.ref b5), .val (.int (0 : Int32)), .val (.int (1 : Int32)), .val (.int (((p4.toUInt32 >>> ((8 : Int32) &&& 31).toUInt32).toInt32) &&& (3 : Int32)))] [])) _
  refine XS.iload X10.here hx rfl (hb hby at_210) rfl ?_
  show Steps p.tables e below (T10.setTop (mkF m 212 #[.val (.int p0), .val (.long q1), .second, .val (.int p2), .val (.long q3), .second, .val (.int p4), .val (.ref ra), .val (.ref rb), .val (.int how), .val (.long idB), .second, .val (.ref b1), .val (.ref b5), .val (.int (0 : Int32)), .val (.int (1 : Int32)), .val (.int (((p4.toUInt32 >>> ((8 : Int32) &&& 31).toUInt32).toInt32) &&& (3 : Int32)))] [(.int (1 : Int32))])) _
  refine XS.ifNo X10.here hx rfl (hb hby at_212) rfl ((if0 _ _).trans (feq (by decide)).1) ?_
  show Steps p.tables e below (T10.setTop (mkF m 215 #[.val (.int p0), .val (.long q1), .second, .val (.int p2), .val (.long q3), .second, .val (.int p4), .val (.ref ra), .val (.ref rb), .val (.int how), .val (.long idB), .second, .val (.ref b1), .val (.ref b5), .val (.int (0 : Int32)), .val (.int (1 : Int32)), .val (.int (((p4.toUInt32 >>> ((8 : Int32) &&& 31).toUInt32).toInt32) &&& (3 : Int32)))] [])) _
  refine XS.aload X10.here hx rfl (hb hby at_215) rfl rfl ?_
  show Steps p.tables e below (T10.setTop (mkF m 217 #[.val (.int p0), .val (.long q1), .second, .val (.int p2), .val (.long q3), .second, .val (.int p4), .val (.ref ra), .val (.ref rb), .val (.int how), .val (.long idB), .second, .val (.ref b1), .val (.ref b5), .val (.int (0 : Int32)), .val (.int (1 : Int32)), .val (.int (((p4.toUInt32 >>> ((8 : Int32) &&& 31).toUInt32).toInt32) &&& (3 : Int32)))] [(.ref b1)])) _
  refine XS.aload X10.here hx rfl (hb hby at_217) rfl rfl ?_
  show Steps p.tables e below (T10.setTop (mkF m 219 #[.val (.int p0), .val (.long q1), .second, .val (.int p2), .val (.long q3), .second, .val (.int p4), .val (.ref ra), .val (.ref rb), .val (.int how), .val (.long idB), .second, .val (.ref b1), .val (.ref b5), .val (.int (0 : Int32)), .val (.int (1 : Int32)), .val (.int (((p4.toUInt32 >>> ((8 : Int32) &&& 31).toUInt32).toInt32) &&& (3 : Int32)))] [(.ref b1), (.ref b1)])) _
  refine st11.trans ?_
  show Steps p.tables e below (T11.setTop (mkF m 222 #[.val (.int p0), .val (.long q1), .second, .val (.int p2), .val (.long q3), .second, .val (.int p4), .val (.ref ra), .val (.ref rb), .val (.int how), .val (.long idB), .second, .val (.ref b1), .val (.ref b5), .val (.int (0 : Int32)), .val (.int (1 : Int32)), .val (.int (((p4.toUInt32 >>> ((8 : Int32) &&& 31).toUInt32).toInt32) &&& (3 : Int32)))] [(.int (1 : Int32))])) _
  refine XS.ifNo X11.here hx rfl (hb hby at_222) rfl ((if0 _ _).trans (feq (by decide)).1) ?_
  show Steps p.tables e below (T11.setTop (mkF m 225 #[.val (.int p0), .val (.long q1), .second, .val (.int p2), .val (.long q3), .second, .val (.int p4), .val (.ref ra), .val (.ref rb), .val (.int how), .val (.long idB), .second, .val (.ref b1), .val (.ref b5), .val (.int (0 : Int32)), .val (.int (1 : Int32)), .val (.int (((p4.toUInt32 >>> ((8 : Int32) &&& 31).toUInt32).toInt32) &&& (3 : Int32)))] [])) _
  refine XS.iconst X11.here hx rfl (hb hby at_225) ?_
  show Steps p.tables e below (T11.setTop (mkF m 226 #[.val (.int p0), .val (.long q1), .second, .val (.int p2), .val (.long q3), .second, .val (.int p4), .val (.ref ra), .val (.ref rb), .val (.int how), .val (.long idB), .second, .val (.ref b1), .val (.ref b5), .val (.int (0 : Int32)), .val (.int (1 : Int32)), .val (.int (((p4.toUInt32 >>> ((8 : Int32) &&& 31).toUInt32).toInt32) &&& (3 : Int32)))] [(.int (1 : Int32))])) _
  refine XS.goto X11.here hx rfl (pc0 := 226) (pc' := 230) rfl (hb hby at_226) (by decide) (by decide) ?_
  show Steps p.tables e below (T11.setTop (mkF m 230 #[.val (.int p0), .val (.long q1), .second, .val (.int p2), .val (.long q3), .second, .val (.int p4), .val (.ref ra), .val (.ref rb), .val (.int how), .val (.long idB), .second, .val (.ref b1), .val (.ref b5), .val (.int (0 : Int32)), .val (.int (1 : Int32)), .val (.int (((p4.toUInt32 >>> ((8 : Int32) &&& 31).toUInt32).toInt32) &&& (3 : Int32)))] [(.int (1 : Int32))])) _
  refine XS.istore X11.here hx rfl (hb hby at_230) rfl (l' := #[.val (.int p0), .val (.long q1), .second, .val (.int p2), .val (.long q3), .second, .val (.int p4), .val (.ref ra), .val (.ref rb), .val (.int how), .val (.long idB), .second, .val (.ref b1), .val (.ref b5), .val (.int (0 : Int32)), .val (.int (1 : Int32)), .val (.int (((p4.toUInt32 >>> ((8 : Int32) &&& 31).toUInt32).toInt32) &&& (3 : Int32)))]) rfl ?_
  show Steps p.tables e below (T11.setTop (mkF m 232 #[.val (.int p0), .val (.long q1), .second, .val (.int p2), .val (.long q3), .second, .val (.int p4), .val (.ref ra), .val (.ref rb), .val (.int how), .val (.long idB), .second, .val (.ref b1), .val (.ref b5), .val (.int (0 : Int32)), .val (.int (1 : Int32)), .val (.int (((p4.toUInt32 >>> ((8 : Int32) &&& 31).toUInt32).toInt32) &&& (3 : Int32)))] [])) _
  refine XS.iload X11.here hx rfl (hb hby at_232) rfl ?_
  show Steps p.tables e below (T11.setTop (mkF m 234 #[.val (.int p0), .val (.long q1), .second, .val (.int p2), .val (.long q3), .second, .val (.int p4), .val (.ref ra), .val (.ref rb), .val (.int how), .val (.long idB), .second, .val (.ref b1), .val (.ref b5), .val (.int (0 : Int32)), .val (.int (1 : Int32)), .val (.int (((p4.toUInt32 >>> ((8 : Int32) &&& 31).toUInt32).toInt32) &&& (3 : Int32)))] [(.int (1 : Int32))])) _
  exact retN X11 hx (t := .boolean) hret (by simp) (hb hby at_234) hr
set_option maxRecDepth 65536 in
set_option maxHeartbeats 40000000 in
theorem tail_ttttt (l : Launch) (Z : State) (a0 : Array Value) (hw : ∀ d ∈ tables_1, d.before a0 Z = true) (p0 : Int32) (q1 : Int64) (p2 : Int32) (q3 : Int64) (p4 : Int32) (ra : Addr) (rb : Addr) (how : Int32) (idB : Int64) (h0 : Heap) (n0 : Nat) (Z0 : n0 ≤ h0.size) (E_ra : Exa Z h0 ra "com/example/lessor/lessor/namespace/FileType") (E_rb : Exa Z h0 rb "com/example/lessor/lessor/namespace/FileType") (ha84 : ra = rb) (hc91 : ¬ (q1 = idB)) (hc144 : ¬ ((((p4.toUInt32 >>> ((8 : Int32) &&& 31).toUInt32).toInt32) &&& (3 : Int32)) = (1 : Int32))) (hc174 : ¬ ((((p4.toUInt32 >>> ((8 : Int32) &&& 31).toUInt32).toInt32) &&& (3 : Int32)) = (2 : Int32))) (hc207 : ¬ ((((p4.toUInt32 >>> ((8 : Int32) &&& 31).toUInt32).toInt32) &&& (3 : Int32)) = (3 : Int32)))
    {p : Program} {e : Env} {s : State} {m : MethodId} {args : Array Value} {below : List Frame} {meth : Method} {c : Code} {s₁ : State} {locs : List Loc} (X0 : Stand p l e room_1 s m args below meth c s₁ locs 0 0) (N0 : Fr n0 locs) (hx : p.tables.exec = Jvm.exec) (hZ : Z.Warmed39 s.vm) (hby : c.code = code) (hml : c.maxLocals = 17) (hown : s.vm.findClass "com/example/lessor/lessor/namespace/BindingEqualsPinLaw" = some m.cls) (hret : meth.sig.returnType = ret) (hlk : meth.locks = false) (e0 : s₁.heap = h0) :
    ∃ s₂ o, Steps p.tables e below (s₁.setTop (mkF m 55 #[.val (.int p0), .val (.long q1), .second, .val (.int p2), .val (.long q3), .second, .val (.int p4), .val (.ref ra), .val (.ref rb), .val (.int how), .val (.long idB), .second, .unset, .unset, .unset, .unset, .unset] [])) s₂ ∧ s₂.status = .running ∧ Ended s₂ below o ∧ (∃ v L, o = .returned v ∧ (v = some (.int (1 : Int32)) ∧ Fr n0 L) ∧ FrameEnd s o s₂ L room_1.cells room_1.slots) := by
  obtain ⟨T1, h1, X1, e1, E1, A1, D1, -, st1⟩ := newO X0 hx hZ hown (hw _ (List.mem_of_getElem? (i := 9) rfl)) (hw _ (List.mem_of_getElem? (i := 10) rfl)) (hw _ (List.mem_of_getElem? (i := 11) rfl)) e0 (g := (mkF m 55 #[.val (.int p0), .val (.long q1), .second, .val (.int p2), .val (.long q3), .second, .val (.int p4), .val (.ref ra), .val (.ref rb), .val (.int how), .val (.long idB), .second, .unset, .unset, .unset, .unset, .unset] [])) rfl (hb hby at_55) (by decide) (by decide)
  obtain ⟨b1, g1⟩ : ∃ z, z = h0.size := ⟨_, rfl⟩
  rw [← g1] at A1 D1 st1
  have g_b1 : n0 ≤ b1 := Nat.le_trans Z0 (Nat.le_of_eq g1.symm)
  have sz_b1 : h0.size ≤ b1 := Nat.le_trans (Keep.refl h0 []).1 (Nat.le_of_eq g1.symm)
  have E_b1 := A1
  have F_type_b1 : Fld Z h1 b1 "com/example/lessor/lessor/namespace/Binding" "type" "Lcom/example/lessor/lessor/namespace/FileType;" .null := D1 (Or.inr (hw _ (List.mem_of_getElem? (i := 25) rfl))) (ty := (.object "com/example/lessor/lessor/namespace/FileType")) (by decide)
  have F_identifier_b1 : Fld Z h1 b1 "com/example/lessor/lessor/namespace/Binding" "identifier" "J" (.long (0 : Int64)) := D1 (Or.inr (hw _ (List.mem_of_getElem? (i := 27) rfl))) (ty := .long) (by decide)
  have K2 : Keep h0 h1 [] := (Keep.refl h0 []).ext E1
  obtain ⟨_, _, ⟨T3, L3, k3, n3⟩, -, X3, ⟨Lc3, hQ3, l3, y3, z3⟩, st3⟩ := X1.specialBack hx (y := (⟨"com/example/lessor/lessor/namespace/Binding", "<init>", "(Lcom/example/lessor/lessor/namespace/FileType;J)V"⟩ : MethodName)) rfl hown (mvT hZ (hw _ (List.mem_of_getElem? (i := 12) rfl))) (mvT hZ (hw _ (List.mem_of_getElem? (i := 13) rfl))) (mvT hZ (hw _ (List.mem_of_getElem? (i := 14) rfl))) (by decide) (backOf (W := 1) (rmBinding l Z a0 hw [] b1 ra q1 .null (.long (0 : Int64)) h1 n0 (Nat.le_trans Z0 K2.1) E_b1 (E_ra.ext E1) F_type_b1 g_b1 F_identifier_b1) hZ (hw _ (List.mem_of_getElem? (i := 14) rfl)) (hw _ (List.mem_of_getElem? (i := 11) rfl)) (by decide) (by decide)) (g := (mkF m 62 #[.val (.int p0), .val (.long q1), .second, .val (.int p2), .val (.long q3), .second, .val (.int p4), .val (.ref ra), .val (.ref rb), .val (.int how), .val (.long idB), .second, .unset, .unset, .unset, .unset, .unset] [(.long q1), (.ref ra), (.ref b1), (.ref b1)])) rfl (by rw [hml]; rfl) (Steps.refl _) (a := b1) (argsL := [(.ref ra), (.long q1)]) (rest := [(.ref b1)]) (lenOf pd__Lcom_example_lessor_lessor_namespace_FileType_J_V rfl) rfl (by show 2 * 0 + _ ≤ _; exact Nat.le_of_eq rfl) (hb hby at_62) (fun _ _ => ⟨rfl, e1, (by decide : 1 + 0 ≤ _), (by decide : 2 + 0 ≤ _)⟩)
  dsimp only [Pt.U, Pt.locs, Pt.cells, Pt.slots] at X3 l3 y3 z3 st3 hQ3
  subst l3 y3 z3
  obtain ⟨rfl, N3q, K3, E3, Ff3, Fd3⟩ := hQ3
  have K4 : Keep h0 T3.heap [] := K2.trans K3 (allS (P := fun x => x ∈ [] ∨ h0.size ≤ x) (Or.inr sz_b1) all0)
  have N3 := Fr.app N0 N3q
  obtain ⟨T5, h5, X5, e5, E5, A5, D5, -, st5⟩ := newO X3 hx hZ hown (hw _ (List.mem_of_getElem? (i := 9) rfl)) (hw _ (List.mem_of_getElem? (i := 10) rfl)) (hw _ (List.mem_of_getElem? (i := 11) rfl)) rfl (g := (mkF m 67 #[.val (.int p0), .val (.long q1), .second, .val (.int p2), .val (.long q3), .second, .val (.int p4), .val (.ref ra), .val (.ref rb), .val (.int how), .val (.long idB), .second, .val (.ref b1), .unset, .unset, .unset, .unset] [])) rfl (hb hby at_67) (by decide) (by decide)
  obtain ⟨b5, g5⟩ : ∃ z, z = T3.heap.size := ⟨_, rfl⟩
  rw [← g5] at A5 D5 st5
  have g_b5 : n0 ≤ b5 := Nat.le_trans (Nat.le_trans Z0 K4.1) (Nat.le_of_eq g5.symm)
  have sz_b5 : h0.size ≤ b5 := Nat.le_trans K4.1 (Nat.le_of_eq g5.symm)
  have E_b5 := A5
  have F_type_b5 : Fld Z h5 b5 "com/example/lessor/lessor/namespace/Binding" "type" "Lcom/example/lessor/lessor/namespace/FileType;" .null := D5 (Or.inr (hw _ (List.mem_of_getElem? (i := 25) rfl))) (ty := (.object "com/example/lessor/lessor/namespace/FileType")) (by decide)
  have F_identifier_b5 : Fld Z h5 b5 "com/example/lessor/lessor/namespace/Binding" "identifier" "J" (.long (0 : Int64)) := D5 (Or.inr (hw _ (List.mem_of_getElem? (i := 27) rfl))) (ty := .long) (by decide)
  have K6 : Keep h0 h5 [] := K4.ext E5
  obtain ⟨_, _, ⟨T7, L7, k7, n7⟩, -, X7, ⟨Lc7, hQ7, l7, y7, z7⟩, st7⟩ := X5.specialBack hx (y := (⟨"com/example/lessor/lessor/namespace/Binding", "<init>", "(Lcom/example/lessor/lessor/namespace/FileType;J)V"⟩ : MethodName)) rfl hown (mvT hZ (hw _ (List.mem_of_getElem? (i := 12) rfl))) (mvT hZ (hw _ (List.mem_of_getElem? (i := 13) rfl))) (mvT hZ (hw _ (List.mem_of_getElem? (i := 14) rfl))) (by decide) (backOf (W := 1) (rmBinding l Z a0 hw [] b5 rb idB .null (.long (0 : Int64)) h5 n0 (Nat.le_trans Z0 K6.1) E_b5 (((E_rb.ext E1).keep K3).ext E5) F_type_b5 g_b5 F_identifier_b5) hZ (hw _ (List.mem_of_getElem? (i := 14) rfl)) (hw _ (List.mem_of_getElem? (i := 11) rfl)) (by decide) (by decide)) (g := (mkF m 75 #[.val (.int p0), .val (.long q1), .second, .val (.int p2), .val (.long q3), .second, .val (.int p4), .val (.ref ra), .val (.ref rb), .val (.int how), .val (.long idB), .second, .val (.ref b1), .unset, .unset, .unset, .unset] [(.long idB), (.ref rb), (.ref b5), (.ref b5)])) rfl (by rw [hml]; rfl) (Steps.refl _) (a := b5) (argsL := [(.ref rb), (.long idB)]) (rest := [(.ref b5)]) (lenOf pd__Lcom_example_lessor_lessor_namespace_FileType_J_V rfl) rfl (by show 2 * 0 + _ ≤ _; exact Nat.le_of_eq rfl) (hb hby at_75) (fun _ _ => ⟨rfl, e5, (by decide : 2 + 0 ≤ _), (by decide : 4 + 0 ≤ _)⟩)
  dsimp only [Pt.U, Pt.locs, Pt.cells, Pt.slots] at X7 l7 y7 z7 st7 hQ7
  subst l7 y7 z7
  obtain ⟨rfl, N7q, K7, E7, Ff7, Fd7⟩ := hQ7
  have K8 : Keep h0 T7.heap [] := K6.trans K7 (allS (P := fun x => x ∈ [] ∨ h0.size ≤ x) (Or.inr sz_b5) all0)
  have N7 := Fr.app N3 N7q
  have ne_b1_b5 : b1 ≠ b5 := Nat.ne_of_lt (Nat.lt_of_lt_of_le E3.lt (Nat.le_of_eq g5.symm))
  obtain ⟨cq9, kq9, q9a, q9b, q9c⟩ := isOf hZ rfl ((E3.ext E5).keep K7)
  obtain ⟨_, _, ⟨T9, L9, k9, n9⟩, -, X9, ⟨Lc9, hQ9, l9, y9, z9⟩, st9⟩ := X7.virtualBack hx (y := (⟨"com/example/lessor/lessor/namespace/Binding", "equals", "(Ljava/lang/Object;)Z"⟩ : MethodName)) (z := (⟨"com/example/lessor/lessor/namespace/Binding", "equals", "(Ljava/lang/Object;)Z"⟩ : MethodName)) hown (mvT hZ (hw _ (List.mem_of_getElem? (i := 28) rfl))) (mvT hZ (hw _ (List.mem_of_getElem? (i := 29) rfl))) (notFace_of_selects (args := #[]) (mvT hZ (hw _ (List.mem_of_getElem? (i := 31) rfl)))) (mvT hZ (hw _ (List.mem_of_getElem? (i := 31) rfl))) (mvT hZ (hw _ (List.mem_of_getElem? (i := 30) rfl))) (by decide) (backOf (W := 0) (rmEq_tt l Z a0 hw [] b1 b5 ra rb q1 idB T7.heap n0 (Nat.le_trans Z0 K8.1) E7 ((Ff3.ext E5).keep K7 (ninS ne_b1_b5 nin0)) Ff7 ha84 ((Fd3.ext E5).keep K7 (ninS ne_b1_b5 nin0)) Fd7 hc91) hZ (hw _ (List.mem_of_getElem? (i := 32) rfl)) (hw _ (List.mem_of_getElem? (i := 11) rfl)) (by decide) (by decide)) q9a q9c (g := (mkF m 105 #[.val (.int p0), .val (.long q1), .second, .val (.int p2), .val (.long q3), .second, .val (.int p4), .val (.ref ra), .val (.ref rb), .val (.int how), .val (.long idB), .second, .val (.ref b1), .val (.ref b5), .val (.int (0 : Int32)), .unset, .unset] [(.ref b5), (.ref b1)])) rfl (by rw [hml]; rfl) (Steps.refl _) (argsL := [(.ref b5)]) (rest := []) (lenOf pd__Ljava_lang_Object__Z rfl) rfl (by show 2 * 0 + _ ≤ _; exact Nat.le_of_eq rfl) (hb hby at_105) (fun _ _ => ⟨rfl, rfl, (by decide : 2 + 0 ≤ _), (by decide : 4 + 0 ≤ _)⟩)
  dsimp only [Pt.U, Pt.locs, Pt.cells, Pt.slots] at X9 l9 y9 z9 st9 hQ9
  subst l9 y9 z9
  obtain ⟨rfl, N9q, e9⟩ := hQ9
  have N9 := Fr.app N7 N9q
  obtain ⟨cq10, kq10, q10a, q10b, q10c⟩ := isOf hZ e9 E7
  obtain ⟨_, _, ⟨T10, L10, k10, n10⟩, -, X10, ⟨Lc10, hQ10, l10, y10, z10⟩, st10⟩ := X9.virtualBack hx (y := (⟨"com/example/lessor/lessor/namespace/Binding", "equals", "(Ljava/lang/Object;)Z"⟩ : MethodName)) (z := (⟨"com/example/lessor/lessor/namespace/Binding", "equals", "(Ljava/lang/Object;)Z"⟩ : MethodName)) hown (mvT hZ (hw _ (List.mem_of_getElem? (i := 28) rfl))) (mvT hZ (hw _ (List.mem_of_getElem? (i := 29) rfl))) (notFace_of_selects (args := #[]) (mvT hZ (hw _ (List.mem_of_getElem? (i := 31) rfl)))) (mvT hZ (hw _ (List.mem_of_getElem? (i := 31) rfl))) (mvT hZ (hw _ (List.mem_of_getElem? (i := 30) rfl))) (by decide) (backOf (W := 0) (rmEq_tt l Z a0 hw [] b5 b1 rb ra idB q1 T7.heap n0 (Nat.le_trans Z0 K8.1) ((E3.ext E5).keep K7) Ff7 ((Ff3.ext E5).keep K7 (ninS ne_b1_b5 nin0)) (Eq.symm ha84) Fd7 ((Fd3.ext E5).keep K7 (ninS ne_b1_b5 nin0)) (fun q => hc91 (Eq.symm q))) hZ (hw _ (List.mem_of_getElem? (i := 32) rfl)) (hw _ (List.mem_of_getElem? (i := 11) rfl)) (by decide) (by decide)) q10a q10c (g := (mkF m 117 #[.val (.int p0), .val (.long q1), .second, .val (.int p2), .val (.long q3), .second, .val (.int p4), .val (.ref ra), .val (.ref rb), .val (.int how), .val (.long idB), .second, .val (.ref b1), .val (.ref b5), .val (.int (0 : Int32)), .unset, .unset] [(.ref b1), (.ref b5)])) rfl (by rw [hml]; rfl) (Steps.refl _) (argsL := [(.ref b1)]) (rest := []) (lenOf pd__Ljava_lang_Object__Z rfl) rfl (by show 2 * 0 + _ ≤ _; exact Nat.le_of_eq rfl) (hb hby at_117) (fun _ _ => ⟨rfl, e9, (by decide : 2 + 0 ≤ _), (by decide : 4 + 0 ≤ _)⟩)
  dsimp only [Pt.U, Pt.locs, Pt.cells, Pt.slots] at X10 l10 y10 z10 st10 hQ10
  subst l10 y10 z10
  obtain ⟨rfl, N10q, e10⟩ := hQ10
  have N10 := Fr.app N9 N10q
  obtain ⟨fs, hr, hrun, hended, hW, hsame⟩ := X10.leave (v := some (.int (1 : Int32))) (fun h => by rw [hret] at h; cases h)
  refine ⟨_, _, ?_, hrun, hended, _, _, rfl, ⟨rfl, N10⟩, ⟨_, rfl⟩, hW, hsame.mono (by decide) (by decide)⟩
  show Steps p.tables e below (s₁.setTop (mkF m 55 #[.val (.int p0), .val (.long q1), .second, .val (.int p2), .val (.long q3), .second, .val (.int p4), .val (.ref ra), .val (.ref rb), .val (.int how), .val (.long idB), .second, .unset, .unset, .unset, .unset, .unset] [])) _
  refine st1 _ ?_
  show Steps p.tables e below (T1.setTop (mkF m 58 #[.val (.int p0), .val (.long q1), .second, .val (.int p2), .val (.long q3), .second, .val (.int p4), .val (.ref ra), .val (.ref rb), .val (.int how), .val (.long idB), .second, .unset, .unset, .unset, .unset, .unset] [(.ref b1)])) _
  refine XS.dup X1.here hx rfl (hb hby at_58) rfl rfl ?_
  show Steps p.tables e below (T1.setTop (mkF m 59 #[.val (.int p0), .val (.long q1), .second, .val (.int p2), .val (.long q3), .second, .val (.int p4), .val (.ref ra), .val (.ref rb), .val (.int how), .val (.long idB), .second, .unset, .unset, .unset, .unset, .unset] [(.ref b1), (.ref b1)])) _
  refine XS.aload X1.here hx rfl (hb hby at_59) rfl rfl ?_
  show Steps p.tables e below (T1.setTop (mkF m 61 #[.val (.int p0), .val (.long q1), .second, .val (.int p2), .val (.long q3), .second, .val (.int p4), .val (.ref ra), .val (.ref rb), .val (.int how), .val (.long idB), .second, .unset, .unset, .unset, .unset, .unset] [(.ref ra), (.ref b1), (.ref b1)])) _
  refine XS.lloadN X1.here hx rfl (hb hby at_61) rfl ?_
  show Steps p.tables e below (T1.setTop (mkF m 62 #[.val (.int p0), .val (.long q1), .second, .val (.int p2), .val (.long q3), .second, .val (.int p4), .val (.ref ra), .val (.ref rb), .val (.int how), .val (.long idB), .second, .unset, .unset, .unset, .unset, .unset] [(.long q1), (.ref ra), (.ref b1), (.ref b1)])) _
  refine st3.trans ?_
  show Steps p.tables e below (T3.setTop (mkF m 65 #[.val (.int p0), .val (.long q1), .second, .val (.int p2), .val (.long q3), .second, .val (.int p4), .val (.ref ra), .val (.ref rb), .val (.int how), .val (.long idB), .second, .unset, .unset, .unset, .unset, .unset] [(.ref b1)])) _
  refine XS.astore X3.here hx rfl (hb hby at_65) rfl rfl (l' := #[.val (.int p0), .val (.long q1), .second, .val (.int p2), .val (.long q3), .second, .val (.int p4), .val (.ref ra), .val (.ref rb), .val (.int how), .val (.long idB), .second, .val (.ref b1), .unset, .unset, .unset, .unset]) rfl ?_
  show Steps p.tables e below (T3.setTop (mkF m 67 #[.val (.int p0), .val (.long q1), .second, .val (.int p2), .val (.long q3), .second, .val (.int p4), .val (.ref ra), .val (.ref rb), .val (.int how), .val (.long idB), .second, .val (.ref b1), .unset, .unset, .unset, .unset] [])) _
  refine st5 _ ?_
  show Steps p.tables e below (T5.setTop (mkF m 70 #[.val (.int p0), .val (.long q1), .second, .val (.int p2), .val (.long q3), .second, .val (.int p4), .val (.ref ra), .val (.ref rb), .val (.int how), .val (.long idB), .second, .val (.ref b1), .unset, .unset, .unset, .unset] [(.ref b5)])) _
  refine XS.dup X5.here hx rfl (hb hby at_70) rfl rfl ?_
  show Steps p.tables e below (T5.setTop (mkF m 71 #[.val (.int p0), .val (.long q1), .second, .val (.int p2), .val (.long q3), .second, .val (.int p4), .val (.ref ra), .val (.ref rb), .val (.int how), .val (.long idB), .second, .val (.ref b1), .unset, .unset, .unset, .unset] [(.ref b5), (.ref b5)])) _
  refine XS.aload X5.here hx rfl (hb hby at_71) rfl rfl ?_
  show Steps p.tables e below (T5.setTop (mkF m 73 #[.val (.int p0), .val (.long q1), .second, .val (.int p2), .val (.long q3), .second, .val (.int p4), .val (.ref ra), .val (.ref rb), .val (.int how), .val (.long idB), .second, .val (.ref b1), .unset, .unset, .unset, .unset] [(.ref rb), (.ref b5), (.ref b5)])) _
  refine XS.lload X5.here hx rfl (hb hby at_73) rfl ?_
  show Steps p.tables e below (T5.setTop (mkF m 75 #[.val (.int p0), .val (.long q1), .second, .val (.int p2), .val (.long q3), .second, .val (.int p4), .val (.ref ra), .val (.ref rb), .val (.int how), .val (.long idB), .second, .val (.ref b1), .unset, .unset, .unset, .unset] [(.long idB), (.ref rb), (.ref b5), (.ref b5)])) _
  refine st7.trans ?_
  show Steps p.tables e below (T7.setTop (mkF m 78 #[.val (.int p0), .val (.long q1), .second, .val (.int p2), .val (.long q3), .second, .val (.int p4), .val (.ref ra), .val (.ref rb), .val (.int how), .val (.long idB), .second, .val (.ref b1), .unset, .unset, .unset, .unset] [(.ref b5)])) _
  refine XS.astore X7.here hx rfl (hb hby at_78) rfl rfl (l' := #[.val (.int p0), .val (.long q1), .second, .val (.int p2), .val (.long q3), .second, .val (.int p4), .val (.ref ra), .val (.ref rb), .val (.int how), .val (.long idB), .second, .val (.ref b1), .val (.ref b5), .unset, .unset, .unset]) rfl ?_
  show Steps p.tables e below (T7.setTop (mkF m 80 #[.val (.int p0), .val (.long q1), .second, .val (.int p2), .val (.long q3), .second, .val (.int p4), .val (.ref ra), .val (.ref rb), .val (.int how), .val (.long idB), .second, .val (.ref b1), .val (.ref b5), .unset, .unset, .unset] [])) _
  refine XS.aload X7.here hx rfl (hb hby at_80) rfl rfl ?_
  show Steps p.tables e below (T7.setTop (mkF m 82 #[.val (.int p0), .val (.long q1), .second, .val (.int p2), .val (.long q3), .second, .val (.int p4), .val (.ref ra), .val (.ref rb), .val (.int how), .val (.long idB), .second, .val (.ref b1), .val (.ref b5), .unset, .unset, .unset] [(.ref ra)])) _
  refine XS.aload X7.here hx rfl (hb hby at_82) rfl rfl ?_
  show Steps p.tables e below (T7.setTop (mkF m 84 #[.val (.int p0), .val (.long q1), .second, .val (.int p2), .val (.long q3), .second, .val (.int p4), .val (.ref ra), .val (.ref rb), .val (.int how), .val (.long idB), .second, .val (.ref b1), .val (.ref b5), .unset, .unset, .unset] [(.ref rb), (.ref ra)])) _
  refine Jvm.RoadKit.acmp (g := (mkF m 84 #[.val (.int p0), .val (.long q1), .second, .val (.int p2), .val (.long q3), .second, .val (.int p4), .val (.ref ra), .val (.ref rb), .val (.int how), .val (.long idB), .second, .val (.ref b1), .val (.ref b5), .unset, .unset, .unset] [(.ref rb), (.ref ra)])) X7 hx rfl rfl rfl (pc0 := 84) (pc' := 87) (same := true) rfl (hb hby at_84) rfl (decide_eq_true (congrArg Value.ref ha84)) (by decide) (by decide) ?_
  show Steps p.tables e below (T7.setTop (mkF m 87 #[.val (.int p0), .val (.long q1), .second, .val (.int p2), .val (.long q3), .second, .val (.int p4), .val (.ref ra), .val (.ref rb), .val (.int how), .val (.long idB), .second, .val (.ref b1), .val (.ref b5), .unset, .unset, .unset] [])) _
  refine XS.lloadN X7.here hx rfl (hb hby at_87) rfl ?_
  show Steps p.tables e below (T7.setTop (mkF m 88 #[.val (.int p0), .val (.long q1), .second, .val (.int p2), .val (.long q3), .second, .val (.int p4), .val (.ref ra), .val (.ref rb), .val (.int how), .val (.long idB), .second, .val (.ref b1), .val (.ref b5), .unset, .unset, .unset] [(.long q1)])) _
  refine XS.lload X7.here hx rfl (hb hby at_88) rfl ?_
  show Steps p.tables e below (T7.setTop (mkF m 90 #[.val (.int p0), .val (.long q1), .second, .val (.int p2), .val (.long q3), .second, .val (.int p4), .val (.ref ra), .val (.ref rb), .val (.int how), .val (.long idB), .second, .val (.ref b1), .val (.ref b5), .unset, .unset, .unset] [(.long idB), (.long q1)])) _
  refine XS.lcmp X7.here hx rfl (hb hby at_90) rfl ?_
  show Steps p.tables e below (T7.setTop (mkF m 91 #[.val (.int p0), .val (.long q1), .second, .val (.int p2), .val (.long q3), .second, .val (.int p4), .val (.ref ra), .val (.ref rb), .val (.int how), .val (.long idB), .second, .val (.ref b1), .val (.ref b5), .unset, .unset, .unset] [(.int (lcmpW q1 idB))])) _
  refine XS.ifYes X7.here hx rfl (pc0 := 91) (pc' := 98) rfl (hb hby at_91) rfl ((if0 _ _).trans (feq (fun q => hc91 ((lw_eq q1 idB).mp q))).2) (by decide) (by decide) ?_
  show Steps p.tables e below (T7.setTop (mkF m 98 #[.val (.int p0), .val (.long q1), .second, .val (.int p2), .val (.long q3), .second, .val (.int p4), .val (.ref ra), .val (.ref rb), .val (.int how), .val (.long idB), .second, .val (.ref b1), .val (.ref b5), .unset, .unset, .unset] [])) _
  refine XS.iconst X7.here hx rfl (hb hby at_98) ?_
  show Steps p.tables e below (T7.setTop (mkF m 99 #[.val (.int p0), .val (.long q1), .second, .val (.int p2), .val (.long q3), .second, .val (.int p4), .val (.ref ra), .val (.ref rb), .val (.int how), .val (.long idB), .second, .val (.ref b1), .val (.ref b5), .unset, .unset, .unset] [(.int (0 : Int32))])) _
  refine XS.istore X7.here hx rfl (hb hby at_99) rfl (l' := #[.val (.int p0), .val (.long q1), .second, .val (.int p2), .val (.long q3), .second, .val (.int p4), .val (.ref ra), .val (.ref rb), .val (.int how), .val (.long idB), .second, .val (.ref b1), .val (.ref b5), .val (.int (0 : Int32)), .unset, .unset]) rfl ?_
  show Steps p.tables e below (T7.setTop (mkF m 101 #[.val (.int p0), .val (.long q1), .second, .val (.int p2), .val (.long q3), .second, .val (.int p4), .val (.ref ra), .val (.ref rb), .val (.int how), .val (.long idB), .second, .val (.ref b1), .val (.ref b5), .val (.int (0 : Int32)), .unset, .unset] [])) _
  refine XS.aload X7.here hx rfl (hb hby at_101) rfl rfl ?_
  show Steps p.tables e below (T7.setTop (mkF m 103 #[.val (.int p0), .val (.long q1), .second, .val (.int p2), .val (.long q3), .second, .val (.int p4), .val (.ref ra), .val (.ref rb), .val (.int how), .val (.long idB), .second, .val (.ref b1), .val (.ref b5), .val (.int (0 : Int32)), .unset, .unset] [(.ref b1)])) _
  refine XS.aload X7.here hx rfl (hb hby at_103) rfl rfl ?_
  show Steps p.tables e below (T7.setTop (mkF m 105 #[.val (.int p0), .val (.long q1), .second, .val (.int p2), .val (.long q3), .second, .val (.int p4), .val (.ref ra), .val (.ref rb), .val (.int how), .val (.long idB), .second, .val (.ref b1), .val (.ref b5), .val (.int (0 : Int32)), .unset, .unset] [(.ref b5), (.ref b1)])) _
  refine st9.trans ?_
  show Steps p.tables e below (T9.setTop (mkF m 108 #[.val (.int p0), .val (.long q1), .second, .val (.int p2), .val (.long q3), .second, .val (.int p4), .val (.ref ra), .val (.ref rb), .val (.int how), .val (.long idB), .second, .val (.ref b1), .val (.ref b5), .val (.int (0 : Int32)), .unset, .unset] [(.int (0 : Int32))])) _
  refine XS.iload X9.here hx rfl (hb hby at_108) rfl ?_
  show Steps p.tables e below (T9.setTop (mkF m 110 #[.val (.int p0), .val (.long q1), .second, .val (.int p2), .val (.long q3), .second, .val (.int p4), .val (.ref ra), .val (.ref rb), .val (.int how), .val (.long idB), .second, .val (.ref b1), .val (.ref b5), .val (.int (0 : Int32)), .unset, .unset] [(.int (0 : Int32)), (.int (0 : Int32))])) _
  refine XS.icmpNo X9.here hx rfl (hb hby at_110) rfl (teq (by decide)).2 ?_
  show Steps p.tables e below (T9.setTop (mkF m 113 #[.val (.int p0), .val (.long q1), .second, .val (.int p2), .val (.long q3), .second, .val (.int p4), .val (.ref ra), .val (.ref rb), .val (.int how), .val (.long idB), .second, .val (.ref b1), .val (.ref b5), .val (.int (0 : Int32)), .unset, .unset] [])) _
  refine XS.aload X9.here hx rfl (hb hby at_113) rfl rfl ?_
  show Steps p.tables e below (T9.setTop (mkF m 115 #[.val (.int p0), .val (.long q1), .second, .val (.int p2), .val (.long q3), .second, .val (.int p4), .val (.ref ra), .val (.ref rb), .val (.int how), .val (.long idB), .second, .val (.ref b1), .val (.ref b5), .val (.int (0 : Int32)), .unset, .unset] [(.ref b5)])) _
  refine XS.aload X9.here hx rfl (hb hby at_115) rfl rfl ?_
  show Steps p.tables e below (T9.setTop (mkF m 117 #[.val (.int p0), .val (.long q1), .second, .val (.int p2), .val (.long q3), .second, .val (.int p4), .val (.ref ra), .val (.ref rb), .val (.int how), .val (.long idB), .second, .val (.ref b1), .val (.ref b5), .val (.int (0 : Int32)), .unset, .unset] [(.ref b1), (.ref b5)])) _
  refine st10.trans ?_
  show Steps p.tables e below (T10.setTop (mkF m 120 #[.val (.int p0), .val (.long q1), .second, .val (.int p2), .val (.long q3), .second, .val (.int p4), .val (.ref ra), .val (.ref rb), .val (.int how), .val (.long idB), .second, .val (.ref b1), .val (.ref b5), .val (.int (0 : Int32)), .unset, .unset] [(.int (0 : Int32))])) _
  refine XS.iload X10.here hx rfl (hb hby at_120) rfl ?_
  show Steps p.tables e below (T10.setTop (mkF m 122 #[.val (.int p0), .val (.long q1), .second, .val (.int p2), .val (.long q3), .second, .val (.int p4), .val (.ref ra), .val (.ref rb), .val (.int how), .val (.long idB), .second, .val (.ref b1), .val (.ref b5), .val (.int (0 : Int32)), .unset, .unset] [(.int (0 : Int32)), (.int (0 : Int32))])) _
  refine XS.icmpNo X10.here hx rfl (hb hby at_122) rfl (teq (by decide)).2 ?_
  show Steps p.tables e below (T10.setTop (mkF m 125 #[.val (.int p0), .val (.long q1), .second, .val (.int p2), .val (.long q3), .second, .val (.int p4), .val (.ref ra), .val (.ref rb), .val (.int how), .val (.long idB), .second, .val (.ref b1), .val (.ref b5), .val (.int (0 : Int32)), .unset, .unset] [])) _
  refine XS.iconst X10.here hx rfl (hb hby at_125) ?_
  show Steps p.tables e below (T10.setTop (mkF m 126 #[.val (.int p0), .val (.long q1), .second, .val (.int p2), .val (.long q3), .second, .val (.int p4), .val (.ref ra), .val (.ref rb), .val (.int how), .val (.long idB), .second, .val (.ref b1), .val (.ref b5), .val (.int (0 : Int32)), .unset, .unset] [(.int (1 : Int32))])) _
  refine XS.goto X10.here hx rfl (pc0 := 126) (pc' := 130) rfl (hb hby at_126) (by decide) (by decide) ?_
  show Steps p.tables e below (T10.setTop (mkF m 130 #[.val (.int p0), .val (.long q1), .second, .val (.int p2), .val (.long q3), .second, .val (.int p4), .val (.ref ra), .val (.ref rb), .val (.int how), .val (.long idB), .second, .val (.ref b1), .val (.ref b5), .val (.int (0 : Int32)), .unset, .unset] [(.int (1 : Int32))])) _
  refine XS.istore X10.here hx rfl (hb hby at_130) rfl (l' := #[.val (.int p0), .val (.long q1), .second, .val (.int p2), .val (.long q3), .second, .val (.int p4), .val (.ref ra), .val (.ref rb), .val (.int how), .val (.long idB), .second, .val (.ref b1), .val (.ref b5), .val (.int (0 : Int32)), .val (.int (1 : Int32)), .unset]) rfl ?_
  show Steps p.tables e below (T10.setTop (mkF m 132 #[.val (.int p0), .val (.long q1), .second, .val (.int p2), .val (.long q3), .second, .val (.int p4), .val (.ref ra), .val (.ref rb), .val (.int how), .val (.long idB), .second, .val (.ref b1), .val (.ref b5), .val (.int (0 : Int32)), .val (.int (1 : Int32)), .unset] [])) _
  refine XS.iload X10.here hx rfl (hb hby at_132) rfl ?_
  show Steps p.tables e below (T10.setTop (mkF m 134 #[.val (.int p0), .val (.long q1), .second, .val (.int p2), .val (.long q3), .second, .val (.int p4), .val (.ref ra), .val (.ref rb), .val (.int how), .val (.long idB), .second, .val (.ref b1), .val (.ref b5), .val (.int (0 : Int32)), .val (.int (1 : Int32)), .unset] [(.int p4)])) _
  refine XS.bipush X10.here hx rfl (hb hby at_134) ?_
  show Steps p.tables e below (T10.setTop (mkF m 136 #[.val (.int p0), .val (.long q1), .second, .val (.int p2), .val (.long q3), .second, .val (.int p4), .val (.ref ra), .val (.ref rb), .val (.int how), .val (.long idB), .second, .val (.ref b1), .val (.ref b5), .val (.int (0 : Int32)), .val (.int (1 : Int32)), .unset] [(.int (8 : Int32)), (.int p4)])) _
  refine XS.iushr X10.here hx rfl (hb hby at_136) rfl ?_
  show Steps p.tables e below (T10.setTop (mkF m 137 #[.val (.int p0), .val (.long q1), .second, .val (.int p2), .val (.long q3), .second, .val (.int p4), .val (.ref ra), .val (.ref rb), .val (.int how), .val (.long idB), .second, .val (.ref b1), .val (.ref b5), .val (.int (0 : Int32)), .val (.int (1 : Int32)), .unset] [(.int ((p4.toUInt32 >>> ((8 : Int32) &&& 31).toUInt32).toInt32))])) _
  refine XS.iconst X10.here hx rfl (hb hby at_137) ?_
  show Steps p.tables e below (T10.setTop (mkF m 138 #[.val (.int p0), .val (.long q1), .second, .val (.int p2), .val (.long q3), .second, .val (.int p4), .val (.ref ra), .val (.ref rb), .val (.int how), .val (.long idB), .second, .val (.ref b1), .val (.ref b5), .val (.int (0 : Int32)), .val (.int (1 : Int32)), .unset] [(.int (3 : Int32)), (.int ((p4.toUInt32 >>> ((8 : Int32) &&& 31).toUInt32).toInt32))])) _
  refine XS.iand X10.here hx rfl (hb hby at_138) rfl ?_
  show Steps p.tables e below (T10.setTop (mkF m 139 #[.val (.int p0), .val (.long q1), .second, .val (.int p2), .val (.long q3), .second, .val (.int p4), .val (.ref ra), .val (.ref rb), .val (.int how), .val (.long idB), .second, .val (.ref b1), .val (.ref b5), .val (.int (0 : Int32)), .val (.int (1 : Int32)), .unset] [(.int (((p4.toUInt32 >>> ((8 : Int32) &&& 31).toUInt32).toInt32) &&& (3 : Int32)))])) _
  refine XS.istore X10.here hx rfl (hb hby at_139) rfl (l' := #[.val (.int p0), .val (.long q1), .second, .val (.int p2), .val (.long q3), .second, .val (.int p4), .val (.ref ra), .val (.ref rb), .val (.int how), .val (.long idB), .second, .val (.ref b1), .val (.ref b5), .val (.int (0 : Int32)), .val (.int (1 : Int32)), .val (.int (((p4.toUInt32 >>> ((8 : Int32) &&& 31).toUInt32).toInt32) &&& (3 : Int32)))]) rfl ?_
  show Steps p.tables e below (T10.setTop (mkF m 141 #[.val (.int p0), .val (.long q1), .second, .val (.int p2), .val (.long q3), .second, .val (.int p4), .val (.ref ra), .val (.ref rb), .val (.int how), .val (.long idB), .second, .val (.ref b1), .val (.ref b5), .val (.int (0 : Int32)), .val (.int (1 : Int32)), .val (.int (((p4.toUInt32 >>> ((8 : Int32) &&& 31).toUInt32).toInt32) &&& (3 : Int32)))] [])) _
  refine XS.iload X10.here hx rfl (hb hby at_141) rfl ?_
  show Steps p.tables e below (T10.setTop (mkF m 143 #[.val (.int p0), .val (.long q1), .second, .val (.int p2), .val (.long q3), .second, .val (.int p4), .val (.ref ra), .val (.ref rb), .val (.int how), .val (.long idB), .second, .val (.ref b1), .val (.ref b5), .val (.int (0 : Int32)), .val (.int (1 : Int32)), .val (.int (((p4.toUInt32 >>> ((8 : Int32) &&& 31).toUInt32).toInt32) &&& (3 : Int32)))] [(.int (((p4.toUInt32 >>> ((8 : Int32) &&& 31).toUInt32).toInt32) &&& (3 : Int32)))])) _
  refine XS.iconst X10.here hx rfl (hb hby at_143) ?_
  show Steps p.tables e below (T10.setTop (mkF m 144 #[.val (.int p0), .val (.long q1), .second, .val (.int p2), .val (.long q3), .second, .val (.int p4), .val (.ref ra), .val (.ref rb), .val (.int how), .val (.long idB), .second, .val (.ref b1), .val (.ref b5), .val (.int (0 : Int32)), .val (.int (1 : Int32)), .val (.int (((p4.toUInt32 >>> ((8 : Int32) &&& 31).toUInt32).toInt32) &&& (3 : Int32)))] [(.int (1 : Int32)), (.int (((p4.toUInt32 >>> ((8 : Int32) &&& 31).toUInt32).toInt32) &&& (3 : Int32)))])) _
  refine XS.icmpYes X10.here hx rfl (pc0 := 144) (pc' := 171) rfl (hb hby at_144) rfl (feq hc144).2 (by decide) (by decide) ?_
  show Steps p.tables e below (T10.setTop (mkF m 171 #[.val (.int p0), .val (.long q1), .second, .val (.int p2), .val (.long q3), .second, .val (.int p4), .val (.ref ra), .val (.ref rb), .val (.int how), .val (.long idB), .second, .val (.ref b1), .val (.ref b5), .val (.int (0 : Int32)), .val (.int (1 : Int32)), .val (.int (((p4.toUInt32 >>> ((8 : Int32) &&& 31).toUInt32).toInt32) &&& (3 : Int32)))] [])) _
  refine XS.iload X10.here hx rfl (hb hby at_171) rfl ?_
  show Steps p.tables e below (T10.setTop (mkF m 173 #[.val (.int p0), .val (.long q1), .second, .val (.int p2), .val (.long q3), .second, .val (.int p4), .val (.ref ra), .val (.ref rb), .val (.int how), .val (.long idB), .second, .val (.ref b1), .val (.ref b5), .val (.int (0 : Int32)), .val (.int (1 : Int32)), .val (.int (((p4.toUInt32 >>> ((8 : Int32) &&& 31).toUInt32).toInt32) &&& (3 : Int32)))] [(.int (((p4.toUInt32 >>> ((8 : Int32) &&& 31).toUInt32).toInt32) &&& (3 : Int32)))])) _
  refine XS.iconst X10.here hx rfl (hb hby at_173) ?_
  show Steps p.tables e below (T10.setTop (mkF m 174 #[.val (.int p0), .val (.long q1), .second, .val (.int p2), .val (.long q3), .second, .val (.int p4), .val (.ref ra), .val (.ref rb), .val (.int how), .val (.long idB), .second, .val (.ref b1), .val (.ref b5), .val (.int (0 : Int32)), .val (.int (1 : Int32)), .val (.int (((p4.toUInt32 >>> ((8 : Int32) &&& 31).toUInt32).toInt32) &&& (3 : Int32)))] [(.int (2 : Int32)), (.int (((p4.toUInt32 >>> ((8 : Int32) &&& 31).toUInt32).toInt32) &&& (3 : Int32)))])) _
  refine XS.icmpYes X10.here hx rfl (pc0 := 174) (pc' := 204) rfl (hb hby at_174) rfl (feq hc174).2 (by decide) (by decide) ?_
  show Steps p.tables e below (T10.setTop (mkF m 204 #[.val (.int p0), .val (.long q1), .second, .val (.int p2), .val (.long q3), .second, .val (.int p4), .val (.ref ra), .val (.ref rb), .val (.int how), .val (.long idB), .second, .val (.ref b1), .val (.ref b5), .val (.int (0 : Int32)), .val (.int (1 : Int32)), .val (.int (((p4.toUInt32 >>> ((8 : Int32) &&& 31).toUInt32).toInt32) &&& (3 : Int32)))] [])) _
  refine XS.iload X10.here hx rfl (hb hby at_204) rfl ?_
  show Steps p.tables e below (T10.setTop (mkF m 206 #[.val (.int p0), .val (.long q1), .second, .val (.int p2), .val (.long q3), .second, .val (.int p4), .val (.ref ra), .val (.ref rb), .val (.int how), .val (.long idB), .second, .val (.ref b1), .val (.ref b5), .val (.int (0 : Int32)), .val (.int (1 : Int32)), .val (.int (((p4.toUInt32 >>> ((8 : Int32) &&& 31).toUInt32).toInt32) &&& (3 : Int32)))] [(.int (((p4.toUInt32 >>> ((8 : Int32) &&& 31).toUInt32).toInt32) &&& (3 : Int32)))])) _
  refine XS.iconst X10.here hx rfl (hb hby at_206) ?_
  show Steps p.tables e below (T10.setTop (mkF m 207 #[.val (.int p0), .val (.long q1), .second, .val (.int p2), .val (.long q3), .second, .val (.int p4), .val (.ref ra), .val (.ref rb), .val (.int how), .val (.long idB), .second, .val (.ref b1), .val (.ref b5), .val (.int (0 : Int32)), .val (.int (1 : Int32)), .val (.int (((p4.toUInt32 >>> ((8 : Int32) &&& 31).toUInt32).toInt32) &&& (3 : Int32)))] [(.int (3 : Int32)), (.int (((p4.toUInt32 >>> ((8 : Int32) &&& 31).toUInt32).toInt32) &&& (3 : Int32)))])) _
  refine XS.icmpYes X10.here hx rfl (pc0 := 207) (pc' := 232) rfl (hb hby at_207) rfl (feq hc207).2 (by decide) (by decide) ?_
  show Steps p.tables e below (T10.setTop (mkF m 232 #[.val (.int p0), .val (.long q1), .second, .val (.int p2), .val (.long q3), .second, .val (.int p4), .val (.ref ra), .val (.ref rb), .val (.int how), .val (.long idB), .second, .val (.ref b1), .val (.ref b5), .val (.int (0 : Int32)), .val (.int (1 : Int32)), .val (.int (((p4.toUInt32 >>> ((8 : Int32) &&& 31).toUInt32).toInt32) &&& (3 : Int32)))] [])) _
  refine XS.iload X10.here hx rfl (hb hby at_232) rfl ?_
  show Steps p.tables e below (T10.setTop (mkF m 234 #[.val (.int p0), .val (.long q1), .second, .val (.int p2), .val (.long q3), .second, .val (.int p4), .val (.ref ra), .val (.ref rb), .val (.int how), .val (.long idB), .second, .val (.ref b1), .val (.ref b5), .val (.int (0 : Int32)), .val (.int (1 : Int32)), .val (.int (((p4.toUInt32 >>> ((8 : Int32) &&& 31).toUInt32).toInt32) &&& (3 : Int32)))] [(.int (1 : Int32))])) _
  exact retN X10 hx (t := .boolean) hret (by simp) (hb hby at_234) hr
set_option maxRecDepth 65536 in
set_option maxHeartbeats 40000000 in
theorem tail_ttttf (l : Launch) (Z : State) (a0 : Array Value) (hw : ∀ d ∈ tables_1, d.before a0 Z = true) (p0 : Int32) (q1 : Int64) (p2 : Int32) (q3 : Int64) (p4 : Int32) (ra : Addr) (rb : Addr) (how : Int32) (idB : Int64) (h0 : Heap) (n0 : Nat) (Z0 : n0 ≤ h0.size) (E_ra : Exa Z h0 ra "com/example/lessor/lessor/namespace/FileType") (E_rb : Exa Z h0 rb "com/example/lessor/lessor/namespace/FileType") (ha84 : ra = rb) (hc91 : ¬ (q1 = idB)) (hc144 : ¬ ((((p4.toUInt32 >>> ((8 : Int32) &&& 31).toUInt32).toInt32) &&& (3 : Int32)) = (1 : Int32))) (hc174 : ¬ ((((p4.toUInt32 >>> ((8 : Int32) &&& 31).toUInt32).toInt32) &&& (3 : Int32)) = (2 : Int32))) (hc207 : (((p4.toUInt32 >>> ((8 : Int32) &&& 31).toUInt32).toInt32) &&& (3 : Int32)) = (3 : Int32))
    {p : Program} {e : Env} {s : State} {m : MethodId} {args : Array Value} {below : List Frame} {meth : Method} {c : Code} {s₁ : State} {locs : List Loc} (X0 : Stand p l e room_1 s m args below meth c s₁ locs 0 0) (N0 : Fr n0 locs) (hx : p.tables.exec = Jvm.exec) (hZ : Z.Warmed39 s.vm) (hby : c.code = code) (hml : c.maxLocals = 17) (hown : s.vm.findClass "com/example/lessor/lessor/namespace/BindingEqualsPinLaw" = some m.cls) (hret : meth.sig.returnType = ret) (hlk : meth.locks = false) (e0 : s₁.heap = h0) :
    ∃ s₂ o, Steps p.tables e below (s₁.setTop (mkF m 55 #[.val (.int p0), .val (.long q1), .second, .val (.int p2), .val (.long q3), .second, .val (.int p4), .val (.ref ra), .val (.ref rb), .val (.int how), .val (.long idB), .second, .unset, .unset, .unset, .unset, .unset] [])) s₂ ∧ s₂.status = .running ∧ Ended s₂ below o ∧ (∃ v L, o = .returned v ∧ (v = some (.int (1 : Int32)) ∧ Fr n0 L) ∧ FrameEnd s o s₂ L room_1.cells room_1.slots) := by
  obtain ⟨T1, h1, X1, e1, E1, A1, D1, -, st1⟩ := newO X0 hx hZ hown (hw _ (List.mem_of_getElem? (i := 9) rfl)) (hw _ (List.mem_of_getElem? (i := 10) rfl)) (hw _ (List.mem_of_getElem? (i := 11) rfl)) e0 (g := (mkF m 55 #[.val (.int p0), .val (.long q1), .second, .val (.int p2), .val (.long q3), .second, .val (.int p4), .val (.ref ra), .val (.ref rb), .val (.int how), .val (.long idB), .second, .unset, .unset, .unset, .unset, .unset] [])) rfl (hb hby at_55) (by decide) (by decide)
  obtain ⟨b1, g1⟩ : ∃ z, z = h0.size := ⟨_, rfl⟩
  rw [← g1] at A1 D1 st1
  have g_b1 : n0 ≤ b1 := Nat.le_trans Z0 (Nat.le_of_eq g1.symm)
  have sz_b1 : h0.size ≤ b1 := Nat.le_trans (Keep.refl h0 []).1 (Nat.le_of_eq g1.symm)
  have E_b1 := A1
  have F_type_b1 : Fld Z h1 b1 "com/example/lessor/lessor/namespace/Binding" "type" "Lcom/example/lessor/lessor/namespace/FileType;" .null := D1 (Or.inr (hw _ (List.mem_of_getElem? (i := 25) rfl))) (ty := (.object "com/example/lessor/lessor/namespace/FileType")) (by decide)
  have F_identifier_b1 : Fld Z h1 b1 "com/example/lessor/lessor/namespace/Binding" "identifier" "J" (.long (0 : Int64)) := D1 (Or.inr (hw _ (List.mem_of_getElem? (i := 27) rfl))) (ty := .long) (by decide)
  have K2 : Keep h0 h1 [] := (Keep.refl h0 []).ext E1
  obtain ⟨_, _, ⟨T3, L3, k3, n3⟩, -, X3, ⟨Lc3, hQ3, l3, y3, z3⟩, st3⟩ := X1.specialBack hx (y := (⟨"com/example/lessor/lessor/namespace/Binding", "<init>", "(Lcom/example/lessor/lessor/namespace/FileType;J)V"⟩ : MethodName)) rfl hown (mvT hZ (hw _ (List.mem_of_getElem? (i := 12) rfl))) (mvT hZ (hw _ (List.mem_of_getElem? (i := 13) rfl))) (mvT hZ (hw _ (List.mem_of_getElem? (i := 14) rfl))) (by decide) (backOf (W := 1) (rmBinding l Z a0 hw [] b1 ra q1 .null (.long (0 : Int64)) h1 n0 (Nat.le_trans Z0 K2.1) E_b1 (E_ra.ext E1) F_type_b1 g_b1 F_identifier_b1) hZ (hw _ (List.mem_of_getElem? (i := 14) rfl)) (hw _ (List.mem_of_getElem? (i := 11) rfl)) (by decide) (by decide)) (g := (mkF m 62 #[.val (.int p0), .val (.long q1), .second, .val (.int p2), .val (.long q3), .second, .val (.int p4), .val (.ref ra), .val (.ref rb), .val (.int how), .val (.long idB), .second, .unset, .unset, .unset, .unset, .unset] [(.long q1), (.ref ra), (.ref b1), (.ref b1)])) rfl (by rw [hml]; rfl) (Steps.refl _) (a := b1) (argsL := [(.ref ra), (.long q1)]) (rest := [(.ref b1)]) (lenOf pd__Lcom_example_lessor_lessor_namespace_FileType_J_V rfl) rfl (by show 2 * 0 + _ ≤ _; exact Nat.le_of_eq rfl) (hb hby at_62) (fun _ _ => ⟨rfl, e1, (by decide : 1 + 0 ≤ _), (by decide : 2 + 0 ≤ _)⟩)
  dsimp only [Pt.U, Pt.locs, Pt.cells, Pt.slots] at X3 l3 y3 z3 st3 hQ3
  subst l3 y3 z3
  obtain ⟨rfl, N3q, K3, E3, Ff3, Fd3⟩ := hQ3
  have K4 : Keep h0 T3.heap [] := K2.trans K3 (allS (P := fun x => x ∈ [] ∨ h0.size ≤ x) (Or.inr sz_b1) all0)
  have N3 := Fr.app N0 N3q
  obtain ⟨T5, h5, X5, e5, E5, A5, D5, -, st5⟩ := newO X3 hx hZ hown (hw _ (List.mem_of_getElem? (i := 9) rfl)) (hw _ (List.mem_of_getElem? (i := 10) rfl)) (hw _ (List.mem_of_getElem? (i := 11) rfl)) rfl (g := (mkF m 67 #[.val (.int p0), .val (.long q1), .second, .val (.int p2), .val (.long q3), .second, .val (.int p4), .val (.ref ra), .val (.ref rb), .val (.int how), .val (.long idB), .second, .val (.ref b1), .unset, .unset, .unset, .unset] [])) rfl (hb hby at_67) (by decide) (by decide)
  obtain ⟨b5, g5⟩ : ∃ z, z = T3.heap.size := ⟨_, rfl⟩
  rw [← g5] at A5 D5 st5
  have g_b5 : n0 ≤ b5 := Nat.le_trans (Nat.le_trans Z0 K4.1) (Nat.le_of_eq g5.symm)
  have sz_b5 : h0.size ≤ b5 := Nat.le_trans K4.1 (Nat.le_of_eq g5.symm)
  have E_b5 := A5
  have F_type_b5 : Fld Z h5 b5 "com/example/lessor/lessor/namespace/Binding" "type" "Lcom/example/lessor/lessor/namespace/FileType;" .null := D5 (Or.inr (hw _ (List.mem_of_getElem? (i := 25) rfl))) (ty := (.object "com/example/lessor/lessor/namespace/FileType")) (by decide)
  have F_identifier_b5 : Fld Z h5 b5 "com/example/lessor/lessor/namespace/Binding" "identifier" "J" (.long (0 : Int64)) := D5 (Or.inr (hw _ (List.mem_of_getElem? (i := 27) rfl))) (ty := .long) (by decide)
  have K6 : Keep h0 h5 [] := K4.ext E5
  obtain ⟨_, _, ⟨T7, L7, k7, n7⟩, -, X7, ⟨Lc7, hQ7, l7, y7, z7⟩, st7⟩ := X5.specialBack hx (y := (⟨"com/example/lessor/lessor/namespace/Binding", "<init>", "(Lcom/example/lessor/lessor/namespace/FileType;J)V"⟩ : MethodName)) rfl hown (mvT hZ (hw _ (List.mem_of_getElem? (i := 12) rfl))) (mvT hZ (hw _ (List.mem_of_getElem? (i := 13) rfl))) (mvT hZ (hw _ (List.mem_of_getElem? (i := 14) rfl))) (by decide) (backOf (W := 1) (rmBinding l Z a0 hw [] b5 rb idB .null (.long (0 : Int64)) h5 n0 (Nat.le_trans Z0 K6.1) E_b5 (((E_rb.ext E1).keep K3).ext E5) F_type_b5 g_b5 F_identifier_b5) hZ (hw _ (List.mem_of_getElem? (i := 14) rfl)) (hw _ (List.mem_of_getElem? (i := 11) rfl)) (by decide) (by decide)) (g := (mkF m 75 #[.val (.int p0), .val (.long q1), .second, .val (.int p2), .val (.long q3), .second, .val (.int p4), .val (.ref ra), .val (.ref rb), .val (.int how), .val (.long idB), .second, .val (.ref b1), .unset, .unset, .unset, .unset] [(.long idB), (.ref rb), (.ref b5), (.ref b5)])) rfl (by rw [hml]; rfl) (Steps.refl _) (a := b5) (argsL := [(.ref rb), (.long idB)]) (rest := [(.ref b5)]) (lenOf pd__Lcom_example_lessor_lessor_namespace_FileType_J_V rfl) rfl (by show 2 * 0 + _ ≤ _; exact Nat.le_of_eq rfl) (hb hby at_75) (fun _ _ => ⟨rfl, e5, (by decide : 2 + 0 ≤ _), (by decide : 4 + 0 ≤ _)⟩)
  dsimp only [Pt.U, Pt.locs, Pt.cells, Pt.slots] at X7 l7 y7 z7 st7 hQ7
  subst l7 y7 z7
  obtain ⟨rfl, N7q, K7, E7, Ff7, Fd7⟩ := hQ7
  have K8 : Keep h0 T7.heap [] := K6.trans K7 (allS (P := fun x => x ∈ [] ∨ h0.size ≤ x) (Or.inr sz_b5) all0)
  have N7 := Fr.app N3 N7q
  have ne_b1_b5 : b1 ≠ b5 := Nat.ne_of_lt (Nat.lt_of_lt_of_le E3.lt (Nat.le_of_eq g5.symm))
  obtain ⟨cq9, kq9, q9a, q9b, q9c⟩ := isOf hZ rfl ((E3.ext E5).keep K7)
  obtain ⟨_, _, ⟨T9, L9, k9, n9⟩, -, X9, ⟨Lc9, hQ9, l9, y9, z9⟩, st9⟩ := X7.virtualBack hx (y := (⟨"com/example/lessor/lessor/namespace/Binding", "equals", "(Ljava/lang/Object;)Z"⟩ : MethodName)) (z := (⟨"com/example/lessor/lessor/namespace/Binding", "equals", "(Ljava/lang/Object;)Z"⟩ : MethodName)) hown (mvT hZ (hw _ (List.mem_of_getElem? (i := 28) rfl))) (mvT hZ (hw _ (List.mem_of_getElem? (i := 29) rfl))) (notFace_of_selects (args := #[]) (mvT hZ (hw _ (List.mem_of_getElem? (i := 31) rfl)))) (mvT hZ (hw _ (List.mem_of_getElem? (i := 31) rfl))) (mvT hZ (hw _ (List.mem_of_getElem? (i := 30) rfl))) (by decide) (backOf (W := 0) (rmEq_tt l Z a0 hw [] b1 b5 ra rb q1 idB T7.heap n0 (Nat.le_trans Z0 K8.1) E7 ((Ff3.ext E5).keep K7 (ninS ne_b1_b5 nin0)) Ff7 ha84 ((Fd3.ext E5).keep K7 (ninS ne_b1_b5 nin0)) Fd7 hc91) hZ (hw _ (List.mem_of_getElem? (i := 32) rfl)) (hw _ (List.mem_of_getElem? (i := 11) rfl)) (by decide) (by decide)) q9a q9c (g := (mkF m 105 #[.val (.int p0), .val (.long q1), .second, .val (.int p2), .val (.long q3), .second, .val (.int p4), .val (.ref ra), .val (.ref rb), .val (.int how), .val (.long idB), .second, .val (.ref b1), .val (.ref b5), .val (.int (0 : Int32)), .unset, .unset] [(.ref b5), (.ref b1)])) rfl (by rw [hml]; rfl) (Steps.refl _) (argsL := [(.ref b5)]) (rest := []) (lenOf pd__Ljava_lang_Object__Z rfl) rfl (by show 2 * 0 + _ ≤ _; exact Nat.le_of_eq rfl) (hb hby at_105) (fun _ _ => ⟨rfl, rfl, (by decide : 2 + 0 ≤ _), (by decide : 4 + 0 ≤ _)⟩)
  dsimp only [Pt.U, Pt.locs, Pt.cells, Pt.slots] at X9 l9 y9 z9 st9 hQ9
  subst l9 y9 z9
  obtain ⟨rfl, N9q, e9⟩ := hQ9
  have N9 := Fr.app N7 N9q
  obtain ⟨cq10, kq10, q10a, q10b, q10c⟩ := isOf hZ e9 E7
  obtain ⟨_, _, ⟨T10, L10, k10, n10⟩, -, X10, ⟨Lc10, hQ10, l10, y10, z10⟩, st10⟩ := X9.virtualBack hx (y := (⟨"com/example/lessor/lessor/namespace/Binding", "equals", "(Ljava/lang/Object;)Z"⟩ : MethodName)) (z := (⟨"com/example/lessor/lessor/namespace/Binding", "equals", "(Ljava/lang/Object;)Z"⟩ : MethodName)) hown (mvT hZ (hw _ (List.mem_of_getElem? (i := 28) rfl))) (mvT hZ (hw _ (List.mem_of_getElem? (i := 29) rfl))) (notFace_of_selects (args := #[]) (mvT hZ (hw _ (List.mem_of_getElem? (i := 31) rfl)))) (mvT hZ (hw _ (List.mem_of_getElem? (i := 31) rfl))) (mvT hZ (hw _ (List.mem_of_getElem? (i := 30) rfl))) (by decide) (backOf (W := 0) (rmEq_tt l Z a0 hw [] b5 b1 rb ra idB q1 T7.heap n0 (Nat.le_trans Z0 K8.1) ((E3.ext E5).keep K7) Ff7 ((Ff3.ext E5).keep K7 (ninS ne_b1_b5 nin0)) (Eq.symm ha84) Fd7 ((Fd3.ext E5).keep K7 (ninS ne_b1_b5 nin0)) (fun q => hc91 (Eq.symm q))) hZ (hw _ (List.mem_of_getElem? (i := 32) rfl)) (hw _ (List.mem_of_getElem? (i := 11) rfl)) (by decide) (by decide)) q10a q10c (g := (mkF m 117 #[.val (.int p0), .val (.long q1), .second, .val (.int p2), .val (.long q3), .second, .val (.int p4), .val (.ref ra), .val (.ref rb), .val (.int how), .val (.long idB), .second, .val (.ref b1), .val (.ref b5), .val (.int (0 : Int32)), .unset, .unset] [(.ref b1), (.ref b5)])) rfl (by rw [hml]; rfl) (Steps.refl _) (argsL := [(.ref b1)]) (rest := []) (lenOf pd__Ljava_lang_Object__Z rfl) rfl (by show 2 * 0 + _ ≤ _; exact Nat.le_of_eq rfl) (hb hby at_117) (fun _ _ => ⟨rfl, e9, (by decide : 2 + 0 ≤ _), (by decide : 4 + 0 ≤ _)⟩)
  dsimp only [Pt.U, Pt.locs, Pt.cells, Pt.slots] at X10 l10 y10 z10 st10 hQ10
  subst l10 y10 z10
  obtain ⟨rfl, N10q, e10⟩ := hQ10
  have N10 := Fr.app N9 N10q
  obtain ⟨cq11, kq11, q11a, q11b, q11c⟩ := isOf hZ e10 ((E3.ext E5).keep K7)
  obtain ⟨_, _, ⟨T11, L11, k11, n11⟩, -, X11, ⟨Lc11, hQ11, l11, y11, z11⟩, st11⟩ := X10.virtualBack hx (y := (⟨"com/example/lessor/lessor/namespace/Binding", "equals", "(Ljava/lang/Object;)Z"⟩ : MethodName)) (z := (⟨"com/example/lessor/lessor/namespace/Binding", "equals", "(Ljava/lang/Object;)Z"⟩ : MethodName)) hown (mvT hZ (hw _ (List.mem_of_getElem? (i := 28) rfl))) (mvT hZ (hw _ (List.mem_of_getElem? (i := 29) rfl))) (notFace_of_selects (args := #[]) (mvT hZ (hw _ (List.mem_of_getElem? (i := 31) rfl)))) (mvT hZ (hw _ (List.mem_of_getElem? (i := 31) rfl))) (mvT hZ (hw _ (List.mem_of_getElem? (i := 30) rfl))) (by decide) (backOf (W := 0) (rmEq_tf l Z a0 hw [] b1 b1 ra ra q1 q1 T7.heap n0 (Nat.le_trans Z0 K8.1) ((E3.ext E5).keep K7) ((Ff3.ext E5).keep K7 (ninS ne_b1_b5 nin0)) ((Ff3.ext E5).keep K7 (ninS ne_b1_b5 nin0)) rfl ((Fd3.ext E5).keep K7 (ninS ne_b1_b5 nin0)) ((Fd3.ext E5).keep K7 (ninS ne_b1_b5 nin0)) rfl) hZ (hw _ (List.mem_of_getElem? (i := 32) rfl)) (hw _ (List.mem_of_getElem? (i := 11) rfl)) (by decide) (by decide)) q11a q11c (g := (mkF m 219 #[.val (.int p0), .val (.long q1), .second, .val (.int p2), .val (.long q3), .second, .val (.int p4), .val (.ref ra), .val (.ref rb), .val (.int how), .val (.long idB), .second, .val (.ref b1), .val (.ref b5), .val (.int (0 : Int32)), .val (.int (1 : Int32)), .val (.int (((p4.toUInt32 >>> ((8 : Int32) &&& 31).toUInt32).toInt32) &&& (3 : Int32)))] [(.ref b1), (.ref b1)])) rfl (by rw [hml]; rfl) (Steps.refl _) (argsL := [(.ref b1)]) (rest := []) (lenOf pd__Ljava_lang_Object__Z rfl) rfl (by show 2 * 0 + _ ≤ _; exact Nat.le_of_eq rfl) (hb hby at_219) (fun _ _ => ⟨rfl, e10, (by decide : 2 + 0 ≤ _), (by decide : 4 + 0 ≤ _)⟩)
  dsimp only [Pt.U, Pt.locs, Pt.cells, Pt.slots] at X11 l11 y11 z11 st11 hQ11
  subst l11 y11 z11
  obtain ⟨rfl, N11q, e11⟩ := hQ11
  have N11 := Fr.app N10 N11q
  obtain ⟨fs, hr, hrun, hended, hW, hsame⟩ := X11.leave (v := some (.int (1 : Int32))) (fun h => by rw [hret] at h; cases h)
  refine ⟨_, _, ?_, hrun, hended, _, _, rfl, ⟨rfl, N11⟩, ⟨_, rfl⟩, hW, hsame.mono (by decide) (by decide)⟩
  show Steps p.tables e below (s₁.setTop (mkF m 55 #[.val (.int p0), .val (.long q1), .second, .val (.int p2), .val (.long q3), .second, .val (.int p4), .val (.ref ra), .val (.ref rb), .val (.int how), .val (.long idB), .second, .unset, .unset, .unset, .unset, .unset] [])) _
  refine st1 _ ?_
  show Steps p.tables e below (T1.setTop (mkF m 58 #[.val (.int p0), .val (.long q1), .second, .val (.int p2), .val (.long q3), .second, .val (.int p4), .val (.ref ra), .val (.ref rb), .val (.int how), .val (.long idB), .second, .unset, .unset, .unset, .unset, .unset] [(.ref b1)])) _
  refine XS.dup X1.here hx rfl (hb hby at_58) rfl rfl ?_
  show Steps p.tables e below (T1.setTop (mkF m 59 #[.val (.int p0), .val (.long q1), .second, .val (.int p2), .val (.long q3), .second, .val (.int p4), .val (.ref ra), .val (.ref rb), .val (.int how), .val (.long idB), .second, .unset, .unset, .unset, .unset, .unset] [(.ref b1), (.ref b1)])) _
  refine XS.aload X1.here hx rfl (hb hby at_59) rfl rfl ?_
  show Steps p.tables e below (T1.setTop (mkF m 61 #[.val (.int p0), .val (.long q1), .second, .val (.int p2), .val (.long q3), .second, .val (.int p4), .val (.ref ra), .val (.ref rb), .val (.int how), .val (.long idB), .second, .unset, .unset, .unset, .unset, .unset] [(.ref ra), (.ref b1), (.ref b1)])) _
  refine XS.lloadN X1.here hx rfl (hb hby at_61) rfl ?_
  show Steps p.tables e below (T1.setTop (mkF m 62 #[.val (.int p0), .val (.long q1), .second, .val (.int p2), .val (.long q3), .second, .val (.int p4), .val (.ref ra), .val (.ref rb), .val (.int how), .val (.long idB), .second, .unset, .unset, .unset, .unset, .unset] [(.long q1), (.ref ra), (.ref b1), (.ref b1)])) _
  refine st3.trans ?_
  show Steps p.tables e below (T3.setTop (mkF m 65 #[.val (.int p0), .val (.long q1), .second, .val (.int p2), .val (.long q3), .second, .val (.int p4), .val (.ref ra), .val (.ref rb), .val (.int how), .val (.long idB), .second, .unset, .unset, .unset, .unset, .unset] [(.ref b1)])) _
  refine XS.astore X3.here hx rfl (hb hby at_65) rfl rfl (l' := #[.val (.int p0), .val (.long q1), .second, .val (.int p2), .val (.long q3), .second, .val (.int p4), .val (.ref ra), .val (.ref rb), .val (.int how), .val (.long idB), .second, .val (.ref b1), .unset, .unset, .unset, .unset]) rfl ?_
  show Steps p.tables e below (T3.setTop (mkF m 67 #[.val (.int p0), .val (.long q1), .second, .val (.int p2), .val (.long q3), .second, .val (.int p4), .val (.ref ra), .val (.ref rb), .val (.int how), .val (.long idB), .second, .val (.ref b1), .unset, .unset, .unset, .unset] [])) _
  refine st5 _ ?_
  show Steps p.tables e below (T5.setTop (mkF m 70 #[.val (.int p0), .val (.long q1), .second, .val (.int p2), .val (.long q3), .second, .val (.int p4), .val (.ref ra), .val (.ref rb), .val (.int how), .val (.long idB), .second, .val (.ref b1), .unset, .unset, .unset, .unset] [(.ref b5)])) _
  refine XS.dup X5.here hx rfl (hb hby at_70) rfl rfl ?_
  show Steps p.tables e below (T5.setTop (mkF m 71 #[.val (.int p0), .val (.long q1), .second, .val (.int p2), .val (.long q3), .second, .val (.int p4), .val (.ref ra), .val (.ref rb), .val (.int how), .val (.long idB), .second, .val (.ref b1), .unset, .unset, .unset, .unset] [(.ref b5), (.ref b5)])) _
  refine XS.aload X5.here hx rfl (hb hby at_71) rfl rfl ?_
  show Steps p.tables e below (T5.setTop (mkF m 73 #[.val (.int p0), .val (.long q1), .second, .val (.int p2), .val (.long q3), .second, .val (.int p4), .val (.ref ra), .val (.ref rb), .val (.int how), .val (.long idB), .second, .val (.ref b1), .unset, .unset, .unset, .unset] [(.ref rb), (.ref b5), (.ref b5)])) _
  refine XS.lload X5.here hx rfl (hb hby at_73) rfl ?_
  show Steps p.tables e below (T5.setTop (mkF m 75 #[.val (.int p0), .val (.long q1), .second, .val (.int p2), .val (.long q3), .second, .val (.int p4), .val (.ref ra), .val (.ref rb), .val (.int how), .val (.long idB), .second, .val (.ref b1), .unset, .unset, .unset, .unset] [(.long idB), (.ref rb), (.ref b5), (.ref b5)])) _
  refine st7.trans ?_
  show Steps p.tables e below (T7.setTop (mkF m 78 #[.val (.int p0), .val (.long q1), .second, .val (.int p2), .val (.long q3), .second, .val (.int p4), .val (.ref ra), .val (.ref rb), .val (.int how), .val (.long idB), .second, .val (.ref b1), .unset, .unset, .unset, .unset] [(.ref b5)])) _
  refine XS.astore X7.here hx rfl (hb hby at_78) rfl rfl (l' := #[.val (.int p0), .val (.long q1), .second, .val (.int p2), .val (.long q3), .second, .val (.int p4), .val (.ref ra), .val (.ref rb), .val (.int how), .val (.long idB), .second, .val (.ref b1), .val (.ref b5), .unset, .unset, .unset]) rfl ?_
  show Steps p.tables e below (T7.setTop (mkF m 80 #[.val (.int p0), .val (.long q1), .second, .val (.int p2), .val (.long q3), .second, .val (.int p4), .val (.ref ra), .val (.ref rb), .val (.int how), .val (.long idB), .second, .val (.ref b1), .val (.ref b5), .unset, .unset, .unset] [])) _
  refine XS.aload X7.here hx rfl (hb hby at_80) rfl rfl ?_
  show Steps p.tables e below (T7.setTop (mkF m 82 #[.val (.int p0), .val (.long q1), .second, .val (.int p2), .val (.long q3), .second, .val (.int p4), .val (.ref ra), .val (.ref rb), .val (.int how), .val (.long idB), .second, .val (.ref b1), .val (.ref b5), .unset, .unset, .unset] [(.ref ra)])) _
  refine XS.aload X7.here hx rfl (hb hby at_82) rfl rfl ?_
  show Steps p.tables e below (T7.setTop (mkF m 84 #[.val (.int p0), .val (.long q1), .second, .val (.int p2), .val (.long q3), .second, .val (.int p4), .val (.ref ra), .val (.ref rb), .val (.int how), .val (.long idB), .second, .val (.ref b1), .val (.ref b5), .unset, .unset, .unset] [(.ref rb), (.ref ra)])) _
  refine Jvm.RoadKit.acmp (g := (mkF m 84 #[.val (.int p0), .val (.long q1), .second, .val (.int p2), .val (.long q3), .second, .val (.int p4), .val (.ref ra), .val (.ref rb), .val (.int how), .val (.long idB), .second, .val (.ref b1), .val (.ref b5), .unset, .unset, .unset] [(.ref rb), (.ref ra)])) X7 hx rfl rfl rfl (pc0 := 84) (pc' := 87) (same := true) rfl (hb hby at_84) rfl (decide_eq_true (congrArg Value.ref ha84)) (by decide) (by decide) ?_
  show Steps p.tables e below (T7.setTop (mkF m 87 #[.val (.int p0), .val (.long q1), .second, .val (.int p2), .val (.long q3), .second, .val (.int p4), .val (.ref ra), .val (.ref rb), .val (.int how), .val (.long idB), .second, .val (.ref b1), .val (.ref b5), .unset, .unset, .unset] [])) _
  refine XS.lloadN X7.here hx rfl (hb hby at_87) rfl ?_
  show Steps p.tables e below (T7.setTop (mkF m 88 #[.val (.int p0), .val (.long q1), .second, .val (.int p2), .val (.long q3), .second, .val (.int p4), .val (.ref ra), .val (.ref rb), .val (.int how), .val (.long idB), .second, .val (.ref b1), .val (.ref b5), .unset, .unset, .unset] [(.long q1)])) _
  refine XS.lload X7.here hx rfl (hb hby at_88) rfl ?_
  show Steps p.tables e below (T7.setTop (mkF m 90 #[.val (.int p0), .val (.long q1), .second, .val (.int p2), .val (.long q3), .second, .val (.int p4), .val (.ref ra), .val (.ref rb), .val (.int how), .val (.long idB), .second, .val (.ref b1), .val (.ref b5), .unset, .unset, .unset] [(.long idB), (.long q1)])) _
  refine XS.lcmp X7.here hx rfl (hb hby at_90) rfl ?_
  show Steps p.tables e below (T7.setTop (mkF m 91 #[.val (.int p0), .val (.long q1), .second, .val (.int p2), .val (.long q3), .second, .val (.int p4), .val (.ref ra), .val (.ref rb), .val (.int how), .val (.long idB), .second, .val (.ref b1), .val (.ref b5), .unset, .unset, .unset] [(.int (lcmpW q1 idB))])) _
  refine XS.ifYes X7.here hx rfl (pc0 := 91) (pc' := 98) rfl (hb hby at_91) rfl ((if0 _ _).trans (feq (fun q => hc91 ((lw_eq q1 idB).mp q))).2) (by decide) (by decide) ?_
  show Steps p.tables e below (T7.setTop (mkF m 98 #[.val (.int p0), .val (.long q1), .second, .val (.int p2), .val (.long q3), .second, .val (.int p4), .val (.ref ra), .val (.ref rb), .val (.int how), .val (.long idB), .second, .val (.ref b1), .val (.ref b5), .unset, .unset, .unset] [])) _
  refine XS.iconst X7.here hx rfl (hb hby at_98) ?_
  show Steps p.tables e below (T7.setTop (mkF m 99 #[.val (.int p0), .val (.long q1), .second, .val (.int p2), .val (.long q3), .second, .val (.int p4), .val (.ref ra), .val (.ref rb), .val (.int how), .val (.long idB), .second, .val (.ref b1), .val (.ref b5), .unset, .unset, .unset] [(.int (0 : Int32))])) _
  refine XS.istore X7.here hx rfl (hb hby at_99) rfl (l' := #[.val (.int p0), .val (.long q1), .second, .val (.int p2), .val (.long q3), .second, .val (.int p4), .val (.ref ra), .val (.ref rb), .val (.int how), .val (.long idB), .second, .val (.ref b1), .val (.ref b5), .val (.int (0 : Int32)), .unset, .unset]) rfl ?_
  show Steps p.tables e below (T7.setTop (mkF m 101 #[.val (.int p0), .val (.long q1), .second, .val (.int p2), .val (.long q3), .second, .val (.int p4), .val (.ref ra), .val (.ref rb), .val (.int how), .val (.long idB), .second, .val (.ref b1), .val (.ref b5), .val (.int (0 : Int32)), .unset, .unset] [])) _
  refine XS.aload X7.here hx rfl (hb hby at_101) rfl rfl ?_
  show Steps p.tables e below (T7.setTop (mkF m 103 #[.val (.int p0), .val (.long q1), .second, .val (.int p2), .val (.long q3), .second, .val (.int p4), .val (.ref ra), .val (.ref rb), .val (.int how), .val (.long idB), .second, .val (.ref b1), .val (.ref b5), .val (.int (0 : Int32)), .unset, .unset] [(.ref b1)])) _
  refine XS.aload X7.here hx rfl (hb hby at_103) rfl rfl ?_
  show Steps p.tables e below (T7.setTop (mkF m 105 #[.val (.int p0), .val (.long q1), .second, .val (.int p2), .val (.long q3), .second, .val (.int p4), .val (.ref ra), .val (.ref rb), .val (.int how), .val (.long idB), .second, .val (.ref b1), .val (.ref b5), .val (.int (0 : Int32)), .unset, .unset] [(.ref b5), (.ref b1)])) _
  refine st9.trans ?_
  show Steps p.tables e below (T9.setTop (mkF m 108 #[.val (.int p0), .val (.long q1), .second, .val (.int p2), .val (.long q3), .second, .val (.int p4), .val (.ref ra), .val (.ref rb), .val (.int how), .val (.long idB), .second, .val (.ref b1), .val (.ref b5), .val (.int (0 : Int32)), .unset, .unset] [(.int (0 : Int32))])) _
  refine XS.iload X9.here hx rfl (hb hby at_108) rfl ?_
  show Steps p.tables e below (T9.setTop (mkF m 110 #[.val (.int p0), .val (.long q1), .second, .val (.int p2), .val (.long q3), .second, .val (.int p4), .val (.ref ra), .val (.ref rb), .val (.int how), .val (.long idB), .second, .val (.ref b1), .val (.ref b5), .val (.int (0 : Int32)), .unset, .unset] [(.int (0 : Int32)), (.int (0 : Int32))])) _
  refine XS.icmpNo X9.here hx rfl (hb hby at_110) rfl (teq (by decide)).2 ?_
  show Steps p.tables e below (T9.setTop (mkF m 113 #[.val (.int p0), .val (.long q1), .second, .val (.int p2), .val (.long q3), .second, .val (.int p4), .val (.ref ra), .val (.ref rb), .val (.int how), .val (.long idB), .second, .val (.ref b1), .val (.ref b5), .val (.int (0 : Int32)), .unset, .unset] [])) _
  refine XS.aload X9.here hx rfl (hb hby at_113) rfl rfl ?_
  show Steps p.tables e below (T9.setTop (mkF m 115 #[.val (.int p0), .val (.long q1), .second, .val (.int p2), .val (.long q3), .second, .val (.int p4), .val (.ref ra), .val (.ref rb), .val (.int how), .val (.long idB), .second, .val (.ref b1), .val (.ref b5), .val (.int (0 : Int32)), .unset, .unset] [(.ref b5)])) _
  refine XS.aload X9.here hx rfl (hb hby at_115) rfl rfl ?_
  show Steps p.tables e below (T9.setTop (mkF m 117 #[.val (.int p0), .val (.long q1), .second, .val (.int p2), .val (.long q3), .second, .val (.int p4), .val (.ref ra), .val (.ref rb), .val (.int how), .val (.long idB), .second, .val (.ref b1), .val (.ref b5), .val (.int (0 : Int32)), .unset, .unset] [(.ref b1), (.ref b5)])) _
  refine st10.trans ?_
  show Steps p.tables e below (T10.setTop (mkF m 120 #[.val (.int p0), .val (.long q1), .second, .val (.int p2), .val (.long q3), .second, .val (.int p4), .val (.ref ra), .val (.ref rb), .val (.int how), .val (.long idB), .second, .val (.ref b1), .val (.ref b5), .val (.int (0 : Int32)), .unset, .unset] [(.int (0 : Int32))])) _
  refine XS.iload X10.here hx rfl (hb hby at_120) rfl ?_
  show Steps p.tables e below (T10.setTop (mkF m 122 #[.val (.int p0), .val (.long q1), .second, .val (.int p2), .val (.long q3), .second, .val (.int p4), .val (.ref ra), .val (.ref rb), .val (.int how), .val (.long idB), .second, .val (.ref b1), .val (.ref b5), .val (.int (0 : Int32)), .unset, .unset] [(.int (0 : Int32)), (.int (0 : Int32))])) _
  refine XS.icmpNo X10.here hx rfl (hb hby at_122) rfl (teq (by decide)).2 ?_
  show Steps p.tables e below (T10.setTop (mkF m 125 #[.val (.int p0), .val (.long q1), .second, .val (.int p2), .val (.long q3), .second, .val (.int p4), .val (.ref ra), .val (.ref rb), .val (.int how), .val (.long idB), .second, .val (.ref b1), .val (.ref b5), .val (.int (0 : Int32)), .unset, .unset] [])) _
  refine XS.iconst X10.here hx rfl (hb hby at_125) ?_
  show Steps p.tables e below (T10.setTop (mkF m 126 #[.val (.int p0), .val (.long q1), .second, .val (.int p2), .val (.long q3), .second, .val (.int p4), .val (.ref ra), .val (.ref rb), .val (.int how), .val (.long idB), .second, .val (.ref b1), .val (.ref b5), .val (.int (0 : Int32)), .unset, .unset] [(.int (1 : Int32))])) _
  refine XS.goto X10.here hx rfl (pc0 := 126) (pc' := 130) rfl (hb hby at_126) (by decide) (by decide) ?_
  show Steps p.tables e below (T10.setTop (mkF m 130 #[.val (.int p0), .val (.long q1), .second, .val (.int p2), .val (.long q3), .second, .val (.int p4), .val (.ref ra), .val (.ref rb), .val (.int how), .val (.long idB), .second, .val (.ref b1), .val (.ref b5), .val (.int (0 : Int32)), .unset, .unset] [(.int (1 : Int32))])) _
  refine XS.istore X10.here hx rfl (hb hby at_130) rfl (l' := #[.val (.int p0), .val (.long q1), .second, .val (.int p2), .val (.long q3), .second, .val (.int p4), .val (.ref ra), .val (.ref rb), .val (.int how), .val (.long idB), .second, .val (.ref b1), .val (.ref b5), .val (.int (0 : Int32)), .val (.int (1 : Int32)), .unset]) rfl ?_
  show Steps p.tables e below (T10.setTop (mkF m 132 #[.val (.int p0), .val (.long q1), .second, .val (.int p2), .val (.long q3), .second, .val (.int p4), .val (.ref ra), .val (.ref rb), .val (.int how), .val (.long idB), .second, .val (.ref b1), .val (.ref b5), .val (.int (0 : Int32)), .val (.int (1 : Int32)), .unset] [])) _
  refine XS.iload X10.here hx rfl (hb hby at_132) rfl ?_
  show Steps p.tables e below (T10.setTop (mkF m 134 #[.val (.int p0), .val (.long q1), .second, .val (.int p2), .val (.long q3), .second, .val (.int p4), .val (.ref ra), .val (.ref rb), .val (.int how), .val (.long idB), .second, .val (.ref b1), .val (.ref b5), .val (.int (0 : Int32)), .val (.int (1 : Int32)), .unset] [(.int p4)])) _
  refine XS.bipush X10.here hx rfl (hb hby at_134) ?_
  show Steps p.tables e below (T10.setTop (mkF m 136 #[.val (.int p0), .val (.long q1), .second, .val (.int p2), .val (.long q3), .second, .val (.int p4), .val (.ref ra), .val (.ref rb), .val (.int how), .val (.long idB), .second, .val (.ref b1), .val (.ref b5), .val (.int (0 : Int32)), .val (.int (1 : Int32)), .unset] [(.int (8 : Int32)), (.int p4)])) _
  refine XS.iushr X10.here hx rfl (hb hby at_136) rfl ?_
  show Steps p.tables e below (T10.setTop (mkF m 137 #[.val (.int p0), .val (.long q1), .second, .val (.int p2), .val (.long q3), .second, .val (.int p4), .val (.ref ra), .val (.ref rb), .val (.int how), .val (.long idB), .second, .val (.ref b1), .val (.ref b5), .val (.int (0 : Int32)), .val (.int (1 : Int32)), .unset] [(.int ((p4.toUInt32 >>> ((8 : Int32) &&& 31).toUInt32).toInt32))])) _
  refine XS.iconst X10.here hx rfl (hb hby at_137) ?_
  show Steps p.tables e below (T10.setTop (mkF m 138 #[.val (.int p0), .val (.long q1), .second, .val (.int p2), .val (.long q3), .second, .val (.int p4), .val (.ref ra), .val (.ref rb), .val (.int how), .val (.long idB), .second, .val (.ref b1), .val (.ref b5), .val (.int (0 : Int32)), .val (.int (1 : Int32)), .unset] [(.int (3 : Int32)), (.int ((p4.toUInt32 >>> ((8 : Int32) &&& 31).toUInt32).toInt32))])) _
  refine XS.iand X10.here hx rfl (hb hby at_138) rfl ?_
  show Steps p.tables e below (T10.setTop (mkF m 139 #[.val (.int p0), .val (.long q1), .second, .val (.int p2), .val (.long q3), .second, .val (.int p4), .val (.ref ra), .val (.ref rb), .val (.int how), .val (.long idB), .second, .val (.ref b1), .val (.ref b5), .val (.int (0 : Int32)), .val (.int (1 : Int32)), .unset] [(.int (((p4.toUInt32 >>> ((8 : Int32) &&& 31).toUInt32).toInt32) &&& (3 : Int32)))])) _
  refine XS.istore X10.here hx rfl (hb hby at_139) rfl (l' := #[.val (.int p0), .val (.long q1), .second, .val (.int p2), .val (.long q3), .second, .val (.int p4), .val (.ref ra), .val (.ref rb), .val (.int how), .val (.long idB), .second, .val (.ref b1), .val (.ref b5), .val (.int (0 : Int32)), .val (.int (1 : Int32)), .val (.int (((p4.toUInt32 >>> ((8 : Int32) &&& 31).toUInt32).toInt32) &&& (3 : Int32)))]) rfl ?_
  show Steps p.tables e below (T10.setTop (mkF m 141 #[.val (.int p0), .val (.long q1), .second, .val (.int p2), .val (.long q3), .second, .val (.int p4), .val (.ref ra), .val (.ref rb), .val (.int how), .val (.long idB), .second, .val (.ref b1), .val (.ref b5), .val (.int (0 : Int32)), .val (.int (1 : Int32)), .val (.int (((p4.toUInt32 >>> ((8 : Int32) &&& 31).toUInt32).toInt32) &&& (3 : Int32)))] [])) _
  refine XS.iload X10.here hx rfl (hb hby at_141) rfl ?_
  show Steps p.tables e below (T10.setTop (mkF m 143 #[.val (.int p0), .val (.long q1), .second, .val (.int p2), .val (.long q3), .second, .val (.int p4), .val (.ref ra), .val (.ref rb), .val (.int how), .val (.long idB), .second, .val (.ref b1), .val (.ref b5), .val (.int (0 : Int32)), .val (.int (1 : Int32)), .val (.int (((p4.toUInt32 >>> ((8 : Int32) &&& 31).toUInt32).toInt32) &&& (3 : Int32)))] [(.int (((p4.toUInt32 >>> ((8 : Int32) &&& 31).toUInt32).toInt32) &&& (3 : Int32)))])) _
  refine XS.iconst X10.here hx rfl (hb hby at_143) ?_
  show Steps p.tables e below (T10.setTop (mkF m 144 #[.val (.int p0), .val (.long q1), .second, .val (.int p2), .val (.long q3), .second, .val (.int p4), .val (.ref ra), .val (.ref rb), .val (.int how), .val (.long idB), .second, .val (.ref b1), .val (.ref b5), .val (.int (0 : Int32)), .val (.int (1 : Int32)), .val (.int (((p4.toUInt32 >>> ((8 : Int32) &&& 31).toUInt32).toInt32) &&& (3 : Int32)))] [(.int (1 : Int32)), (.int (((p4.toUInt32 >>> ((8 : Int32) &&& 31).toUInt32).toInt32) &&& (3 : Int32)))])) _
  refine XS.icmpYes X10.here hx rfl (pc0 := 144) (pc' := 171) rfl (hb hby at_144) rfl (feq hc144).2 (by decide) (by decide) ?_
  show Steps p.tables e below (T10.setTop (mkF m 171 #[.val (.int p0), .val (.long q1), .second, .val (.int p2), .val (.long q3), .second, .val (.int p4), .val (.ref ra), .val (.ref rb), .val (.int how), .val (.long idB), .second, .val (.ref b1), .val (.ref b5), .val (.int (0 : Int32)), .val (.int (1 : Int32)), .val (.int (((p4.toUInt32 >>> ((8 : Int32) &&& 31).toUInt32).toInt32) &&& (3 : Int32)))] [])) _
  refine XS.iload X10.here hx rfl (hb hby at_171) rfl ?_
  show Steps p.tables e below (T10.setTop (mkF m 173 #[.val (.int p0), .val (.long q1), .second, .val (.int p2), .val (.long q3), .second, .val (.int p4), .val (.ref ra), .val (.ref rb), .val (.int how), .val (.long idB), .second, .val (.ref b1), .val (.ref b5), .val (.int (0 : Int32)), .val (.int (1 : Int32)), .val (.int (((p4.toUInt32 >>> ((8 : Int32) &&& 31).toUInt32).toInt32) &&& (3 : Int32)))] [(.int (((p4.toUInt32 >>> ((8 : Int32) &&& 31).toUInt32).toInt32) &&& (3 : Int32)))])) _
  refine XS.iconst X10.here hx rfl (hb hby at_173) ?_
  show Steps p.tables e below (T10.setTop (mkF m 174 #[.val (.int p0), .val (.long q1), .second, .val (.int p2), .val (.long q3), .second, .val (.int p4), .val (.ref ra), .val (.ref rb), .val (.int how), .val (.long idB), .second, .val (.ref b1), .val (.ref b5), .val (.int (0 : Int32)), .val (.int (1 : Int32)), .val (.int (((p4.toUInt32 >>> ((8 : Int32) &&& 31).toUInt32).toInt32) &&& (3 : Int32)))] [(.int (2 : Int32)), (.int (((p4.toUInt32 >>> ((8 : Int32) &&& 31).toUInt32).toInt32) &&& (3 : Int32)))])) _
  refine XS.icmpYes X10.here hx rfl (pc0 := 174) (pc' := 204) rfl (hb hby at_174) rfl (feq hc174).2 (by decide) (by decide) ?_
  show Steps p.tables e below (T10.setTop (mkF m 204 #[.val (.int p0), .val (.long q1), .second, .val (.int p2), .val (.long q3), .second, .val (.int p4), .val (.ref ra), .val (.ref rb), .val (.int how), .val (.long idB), .second, .val (.ref b1), .val (.ref b5), .val (.int (0 : Int32)), .val (.int (1 : Int32)), .val (.int (((p4.toUInt32 >>> ((8 : Int32) &&& 31).toUInt32).toInt32) &&& (3 : Int32)))] [])) _
  refine XS.iload X10.here hx rfl (hb hby at_204) rfl ?_
  show Steps p.tables e below (T10.setTop (mkF m 206 #[.val (.int p0), .val (.long q1), .second, .val (.int p2), .val (.long q3), .second, .val (.int p4), .val (.ref ra), .val (.ref rb), .val (.int how), .val (.long idB), .second, .val (.ref b1), .val (.ref b5), .val (.int (0 : Int32)), .val (.int (1 : Int32)), .val (.int (((p4.toUInt32 >>> ((8 : Int32) &&& 31).toUInt32).toInt32) &&& (3 : Int32)))] [(.int (((p4.toUInt32 >>> ((8 : Int32) &&& 31).toUInt32).toInt32) &&& (3 : Int32)))])) _
  refine XS.iconst X10.here hx rfl (hb hby at_206) ?_
  show Steps p.tables e below (T10.setTop (mkF m 207 #[.val (.int p0), .val (.long q1), .second, .val (.int p2), .val (.long q3), .second, .val (.int p4), .val (.ref ra), .val (.ref rb), .val (.int how), .val (.long idB), .second, .val (.ref b1), .val (.ref b5), .val (.int (0 : Int32)), .val (.int (1 : Int32)), .val (.int (((p4.toUInt32 >>> ((8 : Int32) &&& 31).toUInt32).toInt32) &&& (3 : Int32)))] [(.int (3 : Int32)), (.int (((p4.toUInt32 >>> ((8 : Int32) &&& 31).toUInt32).toInt32) &&& (3 : Int32)))])) _
  refine XS.icmpNo X10.here hx rfl (hb hby at_207) rfl (teq hc207).2 ?_
  show Steps p.tables e below (T10.setTop (mkF m 210 #[.val (.int p0), .val (.long q1), .second, .val (.int p2), .val (.long q3), .second, .val (.int p4), .val (.ref ra), .val (.ref rb), .val (.int how), .val (.long idB), .second, .val (.ref b1), .val (.ref b5), .val (.int (0 : Int32)), .val (.int (1 : Int32)), .val (.int (((p4.toUInt32 >>> ((8 : Int32) &&& 31).toUInt32).toInt32) &&& (3 : Int32)))] [])) _
  refine XS.iload X10.here hx rfl (hb hby at_210) rfl ?_
  show Steps p.tables e below (T10.setTop (mkF m 212 #[.val (.int p0), .val (.long q1), .second, .val (.int p2), .val (.long q3), .second, .val (.int p4), .val (.ref ra), .val (.ref rb), .val (.int how), .val (.long idB), .second, .val (.ref b1), .val (.ref b5), .val (.int (0 : Int32)), .val (.int (1 : Int32)), .val (.int (((p4.toUInt32 >>> ((8 : Int32) &&& 31).toUInt32).toInt32) &&& (3 : Int32)))] [(.int (1 : Int32))])) _
  refine XS.ifNo X10.here hx rfl (hb hby at_212) rfl ((if0 _ _).trans (feq (by decide)).1) ?_
  show Steps p.tables e below (T10.setTop (mkF m 215 #[.val (.int p0), .val (.long q1), .second, .val (.int p2), .val (.long q3), .second, .val (.int p4), .val (.ref ra), .val (.ref rb), .val (.int how), .val (.long idB), .second, .val (.ref b1), .val (.ref b5), .val (.int (0 : Int32)), .val (.int (1 : Int32)), .val (.int (((p4.toUInt32 >>> ((8 : Int32) &&& 31).toUInt32).toInt32) &&& (3 : Int32)))] [])) _
  refine XS.aload X10.here hx rfl (hb hby at_215) rfl rfl ?_
  show Steps p.tables e below (T10.setTop (mkF m 217 #[.val (.int p0), .val (.long q1), .second, .val (.int p2), .val (.long q3), .second, .val (.int p4), .val (.ref ra), .val (.ref rb), .val (.int how), .val (.long idB), .second, .val (.ref b1), .val (.ref b5), .val (.int (0 : Int32)), .val (.int (1 : Int32)), .val (.int (((p4.toUInt32 >>> ((8 : Int32) &&& 31).toUInt32).toInt32) &&& (3 : Int32)))] [(.ref b1)])) _
  refine XS.aload X10.here hx rfl (hb hby at_217) rfl rfl ?_
  show Steps p.tables e below (T10.setTop (mkF m 219 #[.val (.int p0), .val (.long q1), .second, .val (.int p2), .val (.long q3), .second, .val (.int p4), .val (.ref ra), .val (.ref rb), .val (.int how), .val (.long idB), .second, .val (.ref b1), .val (.ref b5), .val (.int (0 : Int32)), .val (.int (1 : Int32)), .val (.int (((p4.toUInt32 >>> ((8 : Int32) &&& 31).toUInt32).toInt32) &&& (3 : Int32)))] [(.ref b1), (.ref b1)])) _
  refine st11.trans ?_
  show Steps p.tables e below (T11.setTop (mkF m 222 #[.val (.int p0), .val (.long q1), .second, .val (.int p2), .val (.long q3), .second, .val (.int p4), .val (.ref ra), .val (.ref rb), .val (.int how), .val (.long idB), .second, .val (.ref b1), .val (.ref b5), .val (.int (0 : Int32)), .val (.int (1 : Int32)), .val (.int (((p4.toUInt32 >>> ((8 : Int32) &&& 31).toUInt32).toInt32) &&& (3 : Int32)))] [(.int (1 : Int32))])) _
  refine XS.ifNo X11.here hx rfl (hb hby at_222) rfl ((if0 _ _).trans (feq (by decide)).1) ?_
  show Steps p.tables e below (T11.setTop (mkF m 225 #[.val (.int p0), .val (.long q1), .second, .val (.int p2), .val (.long q3), .second, .val (.int p4), .val (.ref ra), .val (.ref rb), .val (.int how), .val (.long idB), .second, .val (.ref b1), .val (.ref b5), .val (.int (0 : Int32)), .val (.int (1 : Int32)), .val (.int (((p4.toUInt32 >>> ((8 : Int32) &&& 31).toUInt32).toInt32) &&& (3 : Int32)))] [])) _
  refine XS.iconst X11.here hx rfl (hb hby at_225) ?_
  show Steps p.tables e below (T11.setTop (mkF m 226 #[.val (.int p0), .val (.long q1), .second, .val (.int p2), .val (.long q3), .second, .val (.int p4), .val (.ref ra), .val (.ref rb), .val (.int how), .val (.long idB), .second, .val (.ref b1), .val (.ref b5), .val (.int (0 : Int32)), .val (.int (1 : Int32)), .val (.int (((p4.toUInt32 >>> ((8 : Int32) &&& 31).toUInt32).toInt32) &&& (3 : Int32)))] [(.int (1 : Int32))])) _
  refine XS.goto X11.here hx rfl (pc0 := 226) (pc' := 230) rfl (hb hby at_226) (by decide) (by decide) ?_
  show Steps p.tables e below (T11.setTop (mkF m 230 #[.val (.int p0), .val (.long q1), .second, .val (.int p2), .val (.long q3), .second, .val (.int p4), .val (.ref ra), .val (.ref rb), .val (.int how), .val (.long idB), .second, .val (.ref b1), .val (.ref b5), .val (.int (0 : Int32)), .val (.int (1 : Int32)), .val (.int (((p4.toUInt32 >>> ((8 : Int32) &&& 31).toUInt32).toInt32) &&& (3 : Int32)))] [(.int (1 : Int32))])) _
  refine XS.istore X11.here hx rfl (hb hby at_230) rfl (l' := #[.val (.int p0), .val (.long q1), .second, .val (.int p2), .val (.long q3), .second, .val (.int p4), .val (.ref ra), .val (.ref rb), .val (.int how), .val (.long idB), .second, .val (.ref b1), .val (.ref b5), .val (.int (0 : Int32)), .val (.int (1 : Int32)), .val (.int (((p4.toUInt32 >>> ((8 : Int32) &&& 31).toUInt32).toInt32) &&& (3 : Int32)))]) rfl ?_
  show Steps p.tables e below (T11.setTop (mkF m 232 #[.val (.int p0), .val (.long q1), .second, .val (.int p2), .val (.long q3), .second, .val (.int p4), .val (.ref ra), .val (.ref rb), .val (.int how), .val (.long idB), .second, .val (.ref b1), .val (.ref b5), .val (.int (0 : Int32)), .val (.int (1 : Int32)), .val (.int (((p4.toUInt32 >>> ((8 : Int32) &&& 31).toUInt32).toInt32) &&& (3 : Int32)))] [])) _
  refine XS.iload X11.here hx rfl (hb hby at_232) rfl ?_
  show Steps p.tables e below (T11.setTop (mkF m 234 #[.val (.int p0), .val (.long q1), .second, .val (.int p2), .val (.long q3), .second, .val (.int p4), .val (.ref ra), .val (.ref rb), .val (.int how), .val (.long idB), .second, .val (.ref b1), .val (.ref b5), .val (.int (0 : Int32)), .val (.int (1 : Int32)), .val (.int (((p4.toUInt32 >>> ((8 : Int32) &&& 31).toUInt32).toInt32) &&& (3 : Int32)))] [(.int (1 : Int32))])) _
  exact retN X11 hx (t := .boolean) hret (by simp) (hb hby at_234) hr
set_option maxRecDepth 65536 in
set_option maxHeartbeats 40000000 in
theorem tail_tfttt (l : Launch) (Z : State) (a0 : Array Value) (hw : ∀ d ∈ tables_1, d.before a0 Z = true) (p0 : Int32) (q1 : Int64) (p2 : Int32) (q3 : Int64) (p4 : Int32) (ra : Addr) (rb : Addr) (how : Int32) (idB : Int64) (h0 : Heap) (n0 : Nat) (Z0 : n0 ≤ h0.size) (E_ra : Exa Z h0 ra "com/example/lessor/lessor/namespace/FileType") (E_rb : Exa Z h0 rb "com/example/lessor/lessor/namespace/FileType") (ha84 : ra = rb) (hc91 : q1 = idB) (hc144 : ¬ ((((p4.toUInt32 >>> ((8 : Int32) &&& 31).toUInt32).toInt32) &&& (3 : Int32)) = (1 : Int32))) (hc174 : ¬ ((((p4.toUInt32 >>> ((8 : Int32) &&& 31).toUInt32).toInt32) &&& (3 : Int32)) = (2 : Int32))) (hc207 : ¬ ((((p4.toUInt32 >>> ((8 : Int32) &&& 31).toUInt32).toInt32) &&& (3 : Int32)) = (3 : Int32)))
    {p : Program} {e : Env} {s : State} {m : MethodId} {args : Array Value} {below : List Frame} {meth : Method} {c : Code} {s₁ : State} {locs : List Loc} (X0 : Stand p l e room_1 s m args below meth c s₁ locs 0 0) (N0 : Fr n0 locs) (hx : p.tables.exec = Jvm.exec) (hZ : Z.Warmed39 s.vm) (hby : c.code = code) (hml : c.maxLocals = 17) (hown : s.vm.findClass "com/example/lessor/lessor/namespace/BindingEqualsPinLaw" = some m.cls) (hret : meth.sig.returnType = ret) (hlk : meth.locks = false) (e0 : s₁.heap = h0) :
    ∃ s₂ o, Steps p.tables e below (s₁.setTop (mkF m 55 #[.val (.int p0), .val (.long q1), .second, .val (.int p2), .val (.long q3), .second, .val (.int p4), .val (.ref ra), .val (.ref rb), .val (.int how), .val (.long idB), .second, .unset, .unset, .unset, .unset, .unset] [])) s₂ ∧ s₂.status = .running ∧ Ended s₂ below o ∧ (∃ v L, o = .returned v ∧ (v = some (.int (1 : Int32)) ∧ Fr n0 L) ∧ FrameEnd s o s₂ L room_1.cells room_1.slots) := by
  obtain ⟨T1, h1, X1, e1, E1, A1, D1, -, st1⟩ := newO X0 hx hZ hown (hw _ (List.mem_of_getElem? (i := 9) rfl)) (hw _ (List.mem_of_getElem? (i := 10) rfl)) (hw _ (List.mem_of_getElem? (i := 11) rfl)) e0 (g := (mkF m 55 #[.val (.int p0), .val (.long q1), .second, .val (.int p2), .val (.long q3), .second, .val (.int p4), .val (.ref ra), .val (.ref rb), .val (.int how), .val (.long idB), .second, .unset, .unset, .unset, .unset, .unset] [])) rfl (hb hby at_55) (by decide) (by decide)
  obtain ⟨b1, g1⟩ : ∃ z, z = h0.size := ⟨_, rfl⟩
  rw [← g1] at A1 D1 st1
  have g_b1 : n0 ≤ b1 := Nat.le_trans Z0 (Nat.le_of_eq g1.symm)
  have sz_b1 : h0.size ≤ b1 := Nat.le_trans (Keep.refl h0 []).1 (Nat.le_of_eq g1.symm)
  have E_b1 := A1
  have F_type_b1 : Fld Z h1 b1 "com/example/lessor/lessor/namespace/Binding" "type" "Lcom/example/lessor/lessor/namespace/FileType;" .null := D1 (Or.inr (hw _ (List.mem_of_getElem? (i := 25) rfl))) (ty := (.object "com/example/lessor/lessor/namespace/FileType")) (by decide)
  have F_identifier_b1 : Fld Z h1 b1 "com/example/lessor/lessor/namespace/Binding" "identifier" "J" (.long (0 : Int64)) := D1 (Or.inr (hw _ (List.mem_of_getElem? (i := 27) rfl))) (ty := .long) (by decide)
  have K2 : Keep h0 h1 [] := (Keep.refl h0 []).ext E1
  obtain ⟨_, _, ⟨T3, L3, k3, n3⟩, -, X3, ⟨Lc3, hQ3, l3, y3, z3⟩, st3⟩ := X1.specialBack hx (y := (⟨"com/example/lessor/lessor/namespace/Binding", "<init>", "(Lcom/example/lessor/lessor/namespace/FileType;J)V"⟩ : MethodName)) rfl hown (mvT hZ (hw _ (List.mem_of_getElem? (i := 12) rfl))) (mvT hZ (hw _ (List.mem_of_getElem? (i := 13) rfl))) (mvT hZ (hw _ (List.mem_of_getElem? (i := 14) rfl))) (by decide) (backOf (W := 1) (rmBinding l Z a0 hw [] b1 ra q1 .null (.long (0 : Int64)) h1 n0 (Nat.le_trans Z0 K2.1) E_b1 (E_ra.ext E1) F_type_b1 g_b1 F_identifier_b1) hZ (hw _ (List.mem_of_getElem? (i := 14) rfl)) (hw _ (List.mem_of_getElem? (i := 11) rfl)) (by decide) (by decide)) (g := (mkF m 62 #[.val (.int p0), .val (.long q1), .second, .val (.int p2), .val (.long q3), .second, .val (.int p4), .val (.ref ra), .val (.ref rb), .val (.int how), .val (.long idB), .second, .unset, .unset, .unset, .unset, .unset] [(.long q1), (.ref ra), (.ref b1), (.ref b1)])) rfl (by rw [hml]; rfl) (Steps.refl _) (a := b1) (argsL := [(.ref ra), (.long q1)]) (rest := [(.ref b1)]) (lenOf pd__Lcom_example_lessor_lessor_namespace_FileType_J_V rfl) rfl (by show 2 * 0 + _ ≤ _; exact Nat.le_of_eq rfl) (hb hby at_62) (fun _ _ => ⟨rfl, e1, (by decide : 1 + 0 ≤ _), (by decide : 2 + 0 ≤ _)⟩)
  dsimp only [Pt.U, Pt.locs, Pt.cells, Pt.slots] at X3 l3 y3 z3 st3 hQ3
  subst l3 y3 z3
  obtain ⟨rfl, N3q, K3, E3, Ff3, Fd3⟩ := hQ3
  have K4 : Keep h0 T3.heap [] := K2.trans K3 (allS (P := fun x => x ∈ [] ∨ h0.size ≤ x) (Or.inr sz_b1) all0)
  have N3 := Fr.app N0 N3q
  obtain ⟨T5, h5, X5, e5, E5, A5, D5, -, st5⟩ := newO X3 hx hZ hown (hw _ (List.mem_of_getElem? (i := 9) rfl)) (hw _ (List.mem_of_getElem? (i := 10) rfl)) (hw _ (List.mem_of_getElem? (i := 11) rfl)) rfl (g := (mkF m 67 #[.val (.int p0), .val (.long q1), .second, .val (.int p2), .val (.long q3), .second, .val (.int p4), .val (.ref ra), .val (.ref rb), .val (.int how), .val (.long idB), .second, .val (.ref b1), .unset, .unset, .unset, .unset] [])) rfl (hb hby at_67) (by decide) (by decide)
  obtain ⟨b5, g5⟩ : ∃ z, z = T3.heap.size := ⟨_, rfl⟩
  rw [← g5] at A5 D5 st5
  have g_b5 : n0 ≤ b5 := Nat.le_trans (Nat.le_trans Z0 K4.1) (Nat.le_of_eq g5.symm)
  have sz_b5 : h0.size ≤ b5 := Nat.le_trans K4.1 (Nat.le_of_eq g5.symm)
  have E_b5 := A5
  have F_type_b5 : Fld Z h5 b5 "com/example/lessor/lessor/namespace/Binding" "type" "Lcom/example/lessor/lessor/namespace/FileType;" .null := D5 (Or.inr (hw _ (List.mem_of_getElem? (i := 25) rfl))) (ty := (.object "com/example/lessor/lessor/namespace/FileType")) (by decide)
  have F_identifier_b5 : Fld Z h5 b5 "com/example/lessor/lessor/namespace/Binding" "identifier" "J" (.long (0 : Int64)) := D5 (Or.inr (hw _ (List.mem_of_getElem? (i := 27) rfl))) (ty := .long) (by decide)
  have K6 : Keep h0 h5 [] := K4.ext E5
  obtain ⟨_, _, ⟨T7, L7, k7, n7⟩, -, X7, ⟨Lc7, hQ7, l7, y7, z7⟩, st7⟩ := X5.specialBack hx (y := (⟨"com/example/lessor/lessor/namespace/Binding", "<init>", "(Lcom/example/lessor/lessor/namespace/FileType;J)V"⟩ : MethodName)) rfl hown (mvT hZ (hw _ (List.mem_of_getElem? (i := 12) rfl))) (mvT hZ (hw _ (List.mem_of_getElem? (i := 13) rfl))) (mvT hZ (hw _ (List.mem_of_getElem? (i := 14) rfl))) (by decide) (backOf (W := 1) (rmBinding l Z a0 hw [] b5 rb idB .null (.long (0 : Int64)) h5 n0 (Nat.le_trans Z0 K6.1) E_b5 (((E_rb.ext E1).keep K3).ext E5) F_type_b5 g_b5 F_identifier_b5) hZ (hw _ (List.mem_of_getElem? (i := 14) rfl)) (hw _ (List.mem_of_getElem? (i := 11) rfl)) (by decide) (by decide)) (g := (mkF m 75 #[.val (.int p0), .val (.long q1), .second, .val (.int p2), .val (.long q3), .second, .val (.int p4), .val (.ref ra), .val (.ref rb), .val (.int how), .val (.long idB), .second, .val (.ref b1), .unset, .unset, .unset, .unset] [(.long idB), (.ref rb), (.ref b5), (.ref b5)])) rfl (by rw [hml]; rfl) (Steps.refl _) (a := b5) (argsL := [(.ref rb), (.long idB)]) (rest := [(.ref b5)]) (lenOf pd__Lcom_example_lessor_lessor_namespace_FileType_J_V rfl) rfl (by show 2 * 0 + _ ≤ _; exact Nat.le_of_eq rfl) (hb hby at_75) (fun _ _ => ⟨rfl, e5, (by decide : 2 + 0 ≤ _), (by decide : 4 + 0 ≤ _)⟩)
  dsimp only [Pt.U, Pt.locs, Pt.cells, Pt.slots] at X7 l7 y7 z7 st7 hQ7
  subst l7 y7 z7
  obtain ⟨rfl, N7q, K7, E7, Ff7, Fd7⟩ := hQ7
  have K8 : Keep h0 T7.heap [] := K6.trans K7 (allS (P := fun x => x ∈ [] ∨ h0.size ≤ x) (Or.inr sz_b5) all0)
  have N7 := Fr.app N3 N7q
  have ne_b1_b5 : b1 ≠ b5 := Nat.ne_of_lt (Nat.lt_of_lt_of_le E3.lt (Nat.le_of_eq g5.symm))
  obtain ⟨cq9, kq9, q9a, q9b, q9c⟩ := isOf hZ rfl ((E3.ext E5).keep K7)
  obtain ⟨_, _, ⟨T9, L9, k9, n9⟩, -, X9, ⟨Lc9, hQ9, l9, y9, z9⟩, st9⟩ := X7.virtualBack hx (y := (⟨"com/example/lessor/lessor/namespace/Binding", "equals", "(Ljava/lang/Object;)Z"⟩ : MethodName)) (z := (⟨"com/example/lessor/lessor/namespace/Binding", "equals", "(Ljava/lang/Object;)Z"⟩ : MethodName)) hown (mvT hZ (hw _ (List.mem_of_getElem? (i := 28) rfl))) (mvT hZ (hw _ (List.mem_of_getElem? (i := 29) rfl))) (notFace_of_selects (args := #[]) (mvT hZ (hw _ (List.mem_of_getElem? (i := 31) rfl)))) (mvT hZ (hw _ (List.mem_of_getElem? (i := 31) rfl))) (mvT hZ (hw _ (List.mem_of_getElem? (i := 30) rfl))) (by decide) (backOf (W := 0) (rmEq_tf l Z a0 hw [] b1 b5 ra rb q1 idB T7.heap n0 (Nat.le_trans Z0 K8.1) E7 ((Ff3.ext E5).keep K7 (ninS ne_b1_b5 nin0)) Ff7 ha84 ((Fd3.ext E5).keep K7 (ninS ne_b1_b5 nin0)) Fd7 hc91) hZ (hw _ (List.mem_of_getElem? (i := 32) rfl)) (hw _ (List.mem_of_getElem? (i := 11) rfl)) (by decide) (by decide)) q9a q9c (g := (mkF m 105 #[.val (.int p0), .val (.long q1), .second, .val (.int p2), .val (.long q3), .second, .val (.int p4), .val (.ref ra), .val (.ref rb), .val (.int how), .val (.long idB), .second, .val (.ref b1), .val (.ref b5), .val (.int (1 : Int32)), .unset, .unset] [(.ref b5), (.ref b1)])) rfl (by rw [hml]; rfl) (Steps.refl _) (argsL := [(.ref b5)]) (rest := []) (lenOf pd__Ljava_lang_Object__Z rfl) rfl (by show 2 * 0 + _ ≤ _; exact Nat.le_of_eq rfl) (hb hby at_105) (fun _ _ => ⟨rfl, rfl, (by decide : 2 + 0 ≤ _), (by decide : 4 + 0 ≤ _)⟩)
  dsimp only [Pt.U, Pt.locs, Pt.cells, Pt.slots] at X9 l9 y9 z9 st9 hQ9
  subst l9 y9 z9
  obtain ⟨rfl, N9q, e9⟩ := hQ9
  have N9 := Fr.app N7 N9q
  obtain ⟨cq10, kq10, q10a, q10b, q10c⟩ := isOf hZ e9 E7
  obtain ⟨_, _, ⟨T10, L10, k10, n10⟩, -, X10, ⟨Lc10, hQ10, l10, y10, z10⟩, st10⟩ := X9.virtualBack hx (y := (⟨"com/example/lessor/lessor/namespace/Binding", "equals", "(Ljava/lang/Object;)Z"⟩ : MethodName)) (z := (⟨"com/example/lessor/lessor/namespace/Binding", "equals", "(Ljava/lang/Object;)Z"⟩ : MethodName)) hown (mvT hZ (hw _ (List.mem_of_getElem? (i := 28) rfl))) (mvT hZ (hw _ (List.mem_of_getElem? (i := 29) rfl))) (notFace_of_selects (args := #[]) (mvT hZ (hw _ (List.mem_of_getElem? (i := 31) rfl)))) (mvT hZ (hw _ (List.mem_of_getElem? (i := 31) rfl))) (mvT hZ (hw _ (List.mem_of_getElem? (i := 30) rfl))) (by decide) (backOf (W := 0) (rmEq_tf l Z a0 hw [] b5 b1 rb ra idB q1 T7.heap n0 (Nat.le_trans Z0 K8.1) ((E3.ext E5).keep K7) Ff7 ((Ff3.ext E5).keep K7 (ninS ne_b1_b5 nin0)) (Eq.symm ha84) Fd7 ((Fd3.ext E5).keep K7 (ninS ne_b1_b5 nin0)) (Eq.symm hc91)) hZ (hw _ (List.mem_of_getElem? (i := 32) rfl)) (hw _ (List.mem_of_getElem? (i := 11) rfl)) (by decide) (by decide)) q10a q10c (g := (mkF m 117 #[.val (.int p0), .val (.long q1), .second, .val (.int p2), .val (.long q3), .second, .val (.int p4), .val (.ref ra), .val (.ref rb), .val (.int how), .val (.long idB), .second, .val (.ref b1), .val (.ref b5), .val (.int (1 : Int32)), .unset, .unset] [(.ref b1), (.ref b5)])) rfl (by rw [hml]; rfl) (Steps.refl _) (argsL := [(.ref b1)]) (rest := []) (lenOf pd__Ljava_lang_Object__Z rfl) rfl (by show 2 * 0 + _ ≤ _; exact Nat.le_of_eq rfl) (hb hby at_117) (fun _ _ => ⟨rfl, e9, (by decide : 2 + 0 ≤ _), (by decide : 4 + 0 ≤ _)⟩)
  dsimp only [Pt.U, Pt.locs, Pt.cells, Pt.slots] at X10 l10 y10 z10 st10 hQ10
  subst l10 y10 z10
  obtain ⟨rfl, N10q, e10⟩ := hQ10
  have N10 := Fr.app N9 N10q
  obtain ⟨fs, hr, hrun, hended, hW, hsame⟩ := X10.leave (v := some (.int (1 : Int32))) (fun h => by rw [hret] at h; cases h)
  refine ⟨_, _, ?_, hrun, hended, _, _, rfl, ⟨rfl, N10⟩, ⟨_, rfl⟩, hW, hsame.mono (by decide) (by decide)⟩
  show Steps p.tables e below (s₁.setTop (mkF m 55 #[.val (.int p0), .val (.long q1), .second, .val (.int p2), .val (.long q3), .second, .val (.int p4), .val (.ref ra), .val (.ref rb), .val (.int how), .val (.long idB), .second, .unset, .unset, .unset, .unset, .unset] [])) _
  refine st1 _ ?_
  show Steps p.tables e below (T1.setTop (mkF m 58 #[.val (.int p0), .val (.long q1), .second, .val (.int p2), .val (.long q3), .second, .val (.int p4), .val (.ref ra), .val (.ref rb), .val (.int how), .val (.long idB), .second, .unset, .unset, .unset, .unset, .unset] [(.ref b1)])) _
  refine XS.dup X1.here hx rfl (hb hby at_58) rfl rfl ?_
  show Steps p.tables e below (T1.setTop (mkF m 59 #[.val (.int p0), .val (.long q1), .second, .val (.int p2), .val (.long q3), .second, .val (.int p4), .val (.ref ra), .val (.ref rb), .val (.int how), .val (.long idB), .second, .unset, .unset, .unset, .unset, .unset] [(.ref b1), (.ref b1)])) _
  refine XS.aload X1.here hx rfl (hb hby at_59) rfl rfl ?_
  show Steps p.tables e below (T1.setTop (mkF m 61 #[.val (.int p0), .val (.long q1), .second, .val (.int p2), .val (.long q3), .second, .val (.int p4), .val (.ref ra), .val (.ref rb), .val (.int how), .val (.long idB), .second, .unset, .unset, .unset, .unset, .unset] [(.ref ra), (.ref b1), (.ref b1)])) _
  refine XS.lloadN X1.here hx rfl (hb hby at_61) rfl ?_
  show Steps p.tables e below (T1.setTop (mkF m 62 #[.val (.int p0), .val (.long q1), .second, .val (.int p2), .val (.long q3), .second, .val (.int p4), .val (.ref ra), .val (.ref rb), .val (.int how), .val (.long idB), .second, .unset, .unset, .unset, .unset, .unset] [(.long q1), (.ref ra), (.ref b1), (.ref b1)])) _
  refine st3.trans ?_
  show Steps p.tables e below (T3.setTop (mkF m 65 #[.val (.int p0), .val (.long q1), .second, .val (.int p2), .val (.long q3), .second, .val (.int p4), .val (.ref ra), .val (.ref rb), .val (.int how), .val (.long idB), .second, .unset, .unset, .unset, .unset, .unset] [(.ref b1)])) _
  refine XS.astore X3.here hx rfl (hb hby at_65) rfl rfl (l' := #[.val (.int p0), .val (.long q1), .second, .val (.int p2), .val (.long q3), .second, .val (.int p4), .val (.ref ra), .val (.ref rb), .val (.int how), .val (.long idB), .second, .val (.ref b1), .unset, .unset, .unset, .unset]) rfl ?_
  show Steps p.tables e below (T3.setTop (mkF m 67 #[.val (.int p0), .val (.long q1), .second, .val (.int p2), .val (.long q3), .second, .val (.int p4), .val (.ref ra), .val (.ref rb), .val (.int how), .val (.long idB), .second, .val (.ref b1), .unset, .unset, .unset, .unset] [])) _
  refine st5 _ ?_
  show Steps p.tables e below (T5.setTop (mkF m 70 #[.val (.int p0), .val (.long q1), .second, .val (.int p2), .val (.long q3), .second, .val (.int p4), .val (.ref ra), .val (.ref rb), .val (.int how), .val (.long idB), .second, .val (.ref b1), .unset, .unset, .unset, .unset] [(.ref b5)])) _
  refine XS.dup X5.here hx rfl (hb hby at_70) rfl rfl ?_
  show Steps p.tables e below (T5.setTop (mkF m 71 #[.val (.int p0), .val (.long q1), .second, .val (.int p2), .val (.long q3), .second, .val (.int p4), .val (.ref ra), .val (.ref rb), .val (.int how), .val (.long idB), .second, .val (.ref b1), .unset, .unset, .unset, .unset] [(.ref b5), (.ref b5)])) _
  refine XS.aload X5.here hx rfl (hb hby at_71) rfl rfl ?_
  show Steps p.tables e below (T5.setTop (mkF m 73 #[.val (.int p0), .val (.long q1), .second, .val (.int p2), .val (.long q3), .second, .val (.int p4), .val (.ref ra), .val (.ref rb), .val (.int how), .val (.long idB), .second, .val (.ref b1), .unset, .unset, .unset, .unset] [(.ref rb), (.ref b5), (.ref b5)])) _
  refine XS.lload X5.here hx rfl (hb hby at_73) rfl ?_
  show Steps p.tables e below (T5.setTop (mkF m 75 #[.val (.int p0), .val (.long q1), .second, .val (.int p2), .val (.long q3), .second, .val (.int p4), .val (.ref ra), .val (.ref rb), .val (.int how), .val (.long idB), .second, .val (.ref b1), .unset, .unset, .unset, .unset] [(.long idB), (.ref rb), (.ref b5), (.ref b5)])) _
  refine st7.trans ?_
  show Steps p.tables e below (T7.setTop (mkF m 78 #[.val (.int p0), .val (.long q1), .second, .val (.int p2), .val (.long q3), .second, .val (.int p4), .val (.ref ra), .val (.ref rb), .val (.int how), .val (.long idB), .second, .val (.ref b1), .unset, .unset, .unset, .unset] [(.ref b5)])) _
  refine XS.astore X7.here hx rfl (hb hby at_78) rfl rfl (l' := #[.val (.int p0), .val (.long q1), .second, .val (.int p2), .val (.long q3), .second, .val (.int p4), .val (.ref ra), .val (.ref rb), .val (.int how), .val (.long idB), .second, .val (.ref b1), .val (.ref b5), .unset, .unset, .unset]) rfl ?_
  show Steps p.tables e below (T7.setTop (mkF m 80 #[.val (.int p0), .val (.long q1), .second, .val (.int p2), .val (.long q3), .second, .val (.int p4), .val (.ref ra), .val (.ref rb), .val (.int how), .val (.long idB), .second, .val (.ref b1), .val (.ref b5), .unset, .unset, .unset] [])) _
  refine XS.aload X7.here hx rfl (hb hby at_80) rfl rfl ?_
  show Steps p.tables e below (T7.setTop (mkF m 82 #[.val (.int p0), .val (.long q1), .second, .val (.int p2), .val (.long q3), .second, .val (.int p4), .val (.ref ra), .val (.ref rb), .val (.int how), .val (.long idB), .second, .val (.ref b1), .val (.ref b5), .unset, .unset, .unset] [(.ref ra)])) _
  refine XS.aload X7.here hx rfl (hb hby at_82) rfl rfl ?_
  show Steps p.tables e below (T7.setTop (mkF m 84 #[.val (.int p0), .val (.long q1), .second, .val (.int p2), .val (.long q3), .second, .val (.int p4), .val (.ref ra), .val (.ref rb), .val (.int how), .val (.long idB), .second, .val (.ref b1), .val (.ref b5), .unset, .unset, .unset] [(.ref rb), (.ref ra)])) _
  refine Jvm.RoadKit.acmp (g := (mkF m 84 #[.val (.int p0), .val (.long q1), .second, .val (.int p2), .val (.long q3), .second, .val (.int p4), .val (.ref ra), .val (.ref rb), .val (.int how), .val (.long idB), .second, .val (.ref b1), .val (.ref b5), .unset, .unset, .unset] [(.ref rb), (.ref ra)])) X7 hx rfl rfl rfl (pc0 := 84) (pc' := 87) (same := true) rfl (hb hby at_84) rfl (decide_eq_true (congrArg Value.ref ha84)) (by decide) (by decide) ?_
  show Steps p.tables e below (T7.setTop (mkF m 87 #[.val (.int p0), .val (.long q1), .second, .val (.int p2), .val (.long q3), .second, .val (.int p4), .val (.ref ra), .val (.ref rb), .val (.int how), .val (.long idB), .second, .val (.ref b1), .val (.ref b5), .unset, .unset, .unset] [])) _
  refine XS.lloadN X7.here hx rfl (hb hby at_87) rfl ?_
  show Steps p.tables e below (T7.setTop (mkF m 88 #[.val (.int p0), .val (.long q1), .second, .val (.int p2), .val (.long q3), .second, .val (.int p4), .val (.ref ra), .val (.ref rb), .val (.int how), .val (.long idB), .second, .val (.ref b1), .val (.ref b5), .unset, .unset, .unset] [(.long q1)])) _
  refine XS.lload X7.here hx rfl (hb hby at_88) rfl ?_
  show Steps p.tables e below (T7.setTop (mkF m 90 #[.val (.int p0), .val (.long q1), .second, .val (.int p2), .val (.long q3), .second, .val (.int p4), .val (.ref ra), .val (.ref rb), .val (.int how), .val (.long idB), .second, .val (.ref b1), .val (.ref b5), .unset, .unset, .unset] [(.long idB), (.long q1)])) _
  refine XS.lcmp X7.here hx rfl (hb hby at_90) rfl ?_
  show Steps p.tables e below (T7.setTop (mkF m 91 #[.val (.int p0), .val (.long q1), .second, .val (.int p2), .val (.long q3), .second, .val (.int p4), .val (.ref ra), .val (.ref rb), .val (.int how), .val (.long idB), .second, .val (.ref b1), .val (.ref b5), .unset, .unset, .unset] [(.int (lcmpW q1 idB))])) _
  refine XS.ifNo X7.here hx rfl (hb hby at_91) rfl ((if0 _ _).trans (teq ((lw_eq q1 idB).mpr hc91)).2) ?_
  show Steps p.tables e below (T7.setTop (mkF m 94 #[.val (.int p0), .val (.long q1), .second, .val (.int p2), .val (.long q3), .second, .val (.int p4), .val (.ref ra), .val (.ref rb), .val (.int how), .val (.long idB), .second, .val (.ref b1), .val (.ref b5), .unset, .unset, .unset] [])) _
  refine XS.iconst X7.here hx rfl (hb hby at_94) ?_
  show Steps p.tables e below (T7.setTop (mkF m 95 #[.val (.int p0), .val (.long q1), .second, .val (.int p2), .val (.long q3), .second, .val (.int p4), .val (.ref ra), .val (.ref rb), .val (.int how), .val (.long idB), .second, .val (.ref b1), .val (.ref b5), .unset, .unset, .unset] [(.int (1 : Int32))])) _
  refine XS.goto X7.here hx rfl (pc0 := 95) (pc' := 99) rfl (hb hby at_95) (by decide) (by decide) ?_
  show Steps p.tables e below (T7.setTop (mkF m 99 #[.val (.int p0), .val (.long q1), .second, .val (.int p2), .val (.long q3), .second, .val (.int p4), .val (.ref ra), .val (.ref rb), .val (.int how), .val (.long idB), .second, .val (.ref b1), .val (.ref b5), .unset, .unset, .unset] [(.int (1 : Int32))])) _
  refine XS.istore X7.here hx rfl (hb hby at_99) rfl (l' := #[.val (.int p0), .val (.long q1), .second, .val (.int p2), .val (.long q3), .second, .val (.int p4), .val (.ref ra), .val (.ref rb), .val (.int how), .val (.long idB), .second, .val (.ref b1), .val (.ref b5), .val (.int (1 : Int32)), .unset, .unset]) rfl ?_
  show Steps p.tables e below (T7.setTop (mkF m 101 #[.val (.int p0), .val (.long q1), .second, .val (.int p2), .val (.long q3), .second, .val (.int p4), .val (.ref ra), .val (.ref rb), .val (.int how), .val (.long idB), .second, .val (.ref b1), .val (.ref b5), .val (.int (1 : Int32)), .unset, .unset] [])) _
  refine XS.aload X7.here hx rfl (hb hby at_101) rfl rfl ?_
  show Steps p.tables e below (T7.setTop (mkF m 103 #[.val (.int p0), .val (.long q1), .second, .val (.int p2), .val (.long q3), .second, .val (.int p4), .val (.ref ra), .val (.ref rb), .val (.int how), .val (.long idB), .second, .val (.ref b1), .val (.ref b5), .val (.int (1 : Int32)), .unset, .unset] [(.ref b1)])) _
  refine XS.aload X7.here hx rfl (hb hby at_103) rfl rfl ?_
  show Steps p.tables e below (T7.setTop (mkF m 105 #[.val (.int p0), .val (.long q1), .second, .val (.int p2), .val (.long q3), .second, .val (.int p4), .val (.ref ra), .val (.ref rb), .val (.int how), .val (.long idB), .second, .val (.ref b1), .val (.ref b5), .val (.int (1 : Int32)), .unset, .unset] [(.ref b5), (.ref b1)])) _
  refine st9.trans ?_
  show Steps p.tables e below (T9.setTop (mkF m 108 #[.val (.int p0), .val (.long q1), .second, .val (.int p2), .val (.long q3), .second, .val (.int p4), .val (.ref ra), .val (.ref rb), .val (.int how), .val (.long idB), .second, .val (.ref b1), .val (.ref b5), .val (.int (1 : Int32)), .unset, .unset] [(.int (1 : Int32))])) _
  refine XS.iload X9.here hx rfl (hb hby at_108) rfl ?_
  show Steps p.tables e below (T9.setTop (mkF m 110 #[.val (.int p0), .val (.long q1), .second, .val (.int p2), .val (.long q3), .second, .val (.int p4), .val (.ref ra), .val (.ref rb), .val (.int how), .val (.long idB), .second, .val (.ref b1), .val (.ref b5), .val (.int (1 : Int32)), .unset, .unset] [(.int (1 : Int32)), (.int (1 : Int32))])) _
  refine XS.icmpNo X9.here hx rfl (hb hby at_110) rfl (teq (by decide)).2 ?_
  show Steps p.tables e below (T9.setTop (mkF m 113 #[.val (.int p0), .val (.long q1), .second, .val (.int p2), .val (.long q3), .second, .val (.int p4), .val (.ref ra), .val (.ref rb), .val (.int how), .val (.long idB), .second, .val (.ref b1), .val (.ref b5), .val (.int (1 : Int32)), .unset, .unset] [])) _
  refine XS.aload X9.here hx rfl (hb hby at_113) rfl rfl ?_
  show Steps p.tables e below (T9.setTop (mkF m 115 #[.val (.int p0), .val (.long q1), .second, .val (.int p2), .val (.long q3), .second, .val (.int p4), .val (.ref ra), .val (.ref rb), .val (.int how), .val (.long idB), .second, .val (.ref b1), .val (.ref b5), .val (.int (1 : Int32)), .unset, .unset] [(.ref b5)])) _
  refine XS.aload X9.here hx rfl (hb hby at_115) rfl rfl ?_
  show Steps p.tables e below (T9.setTop (mkF m 117 #[.val (.int p0), .val (.long q1), .second, .val (.int p2), .val (.long q3), .second, .val (.int p4), .val (.ref ra), .val (.ref rb), .val (.int how), .val (.long idB), .second, .val (.ref b1), .val (.ref b5), .val (.int (1 : Int32)), .unset, .unset] [(.ref b1), (.ref b5)])) _
  refine st10.trans ?_
  show Steps p.tables e below (T10.setTop (mkF m 120 #[.val (.int p0), .val (.long q1), .second, .val (.int p2), .val (.long q3), .second, .val (.int p4), .val (.ref ra), .val (.ref rb), .val (.int how), .val (.long idB), .second, .val (.ref b1), .val (.ref b5), .val (.int (1 : Int32)), .unset, .unset] [(.int (1 : Int32))])) _
  refine XS.iload X10.here hx rfl (hb hby at_120) rfl ?_
  show Steps p.tables e below (T10.setTop (mkF m 122 #[.val (.int p0), .val (.long q1), .second, .val (.int p2), .val (.long q3), .second, .val (.int p4), .val (.ref ra), .val (.ref rb), .val (.int how), .val (.long idB), .second, .val (.ref b1), .val (.ref b5), .val (.int (1 : Int32)), .unset, .unset] [(.int (1 : Int32)), (.int (1 : Int32))])) _
  refine XS.icmpNo X10.here hx rfl (hb hby at_122) rfl (teq (by decide)).2 ?_
  show Steps p.tables e below (T10.setTop (mkF m 125 #[.val (.int p0), .val (.long q1), .second, .val (.int p2), .val (.long q3), .second, .val (.int p4), .val (.ref ra), .val (.ref rb), .val (.int how), .val (.long idB), .second, .val (.ref b1), .val (.ref b5), .val (.int (1 : Int32)), .unset, .unset] [])) _
  refine XS.iconst X10.here hx rfl (hb hby at_125) ?_
  show Steps p.tables e below (T10.setTop (mkF m 126 #[.val (.int p0), .val (.long q1), .second, .val (.int p2), .val (.long q3), .second, .val (.int p4), .val (.ref ra), .val (.ref rb), .val (.int how), .val (.long idB), .second, .val (.ref b1), .val (.ref b5), .val (.int (1 : Int32)), .unset, .unset] [(.int (1 : Int32))])) _
  refine XS.goto X10.here hx rfl (pc0 := 126) (pc' := 130) rfl (hb hby at_126) (by decide) (by decide) ?_
  show Steps p.tables e below (T10.setTop (mkF m 130 #[.val (.int p0), .val (.long q1), .second, .val (.int p2), .val (.long q3), .second, .val (.int p4), .val (.ref ra), .val (.ref rb), .val (.int how), .val (.long idB), .second, .val (.ref b1), .val (.ref b5), .val (.int (1 : Int32)), .unset, .unset] [(.int (1 : Int32))])) _
  refine XS.istore X10.here hx rfl (hb hby at_130) rfl (l' := #[.val (.int p0), .val (.long q1), .second, .val (.int p2), .val (.long q3), .second, .val (.int p4), .val (.ref ra), .val (.ref rb), .val (.int how), .val (.long idB), .second, .val (.ref b1), .val (.ref b5), .val (.int (1 : Int32)), .val (.int (1 : Int32)), .unset]) rfl ?_
  show Steps p.tables e below (T10.setTop (mkF m 132 #[.val (.int p0), .val (.long q1), .second, .val (.int p2), .val (.long q3), .second, .val (.int p4), .val (.ref ra), .val (.ref rb), .val (.int how), .val (.long idB), .second, .val (.ref b1), .val (.ref b5), .val (.int (1 : Int32)), .val (.int (1 : Int32)), .unset] [])) _
  refine XS.iload X10.here hx rfl (hb hby at_132) rfl ?_
  show Steps p.tables e below (T10.setTop (mkF m 134 #[.val (.int p0), .val (.long q1), .second, .val (.int p2), .val (.long q3), .second, .val (.int p4), .val (.ref ra), .val (.ref rb), .val (.int how), .val (.long idB), .second, .val (.ref b1), .val (.ref b5), .val (.int (1 : Int32)), .val (.int (1 : Int32)), .unset] [(.int p4)])) _
  refine XS.bipush X10.here hx rfl (hb hby at_134) ?_
  show Steps p.tables e below (T10.setTop (mkF m 136 #[.val (.int p0), .val (.long q1), .second, .val (.int p2), .val (.long q3), .second, .val (.int p4), .val (.ref ra), .val (.ref rb), .val (.int how), .val (.long idB), .second, .val (.ref b1), .val (.ref b5), .val (.int (1 : Int32)), .val (.int (1 : Int32)), .unset] [(.int (8 : Int32)), (.int p4)])) _
  refine XS.iushr X10.here hx rfl (hb hby at_136) rfl ?_
  show Steps p.tables e below (T10.setTop (mkF m 137 #[.val (.int p0), .val (.long q1), .second, .val (.int p2), .val (.long q3), .second, .val (.int p4), .val (.ref ra), .val (.ref rb), .val (.int how), .val (.long idB), .second, .val (.ref b1), .val (.ref b5), .val (.int (1 : Int32)), .val (.int (1 : Int32)), .unset] [(.int ((p4.toUInt32 >>> ((8 : Int32) &&& 31).toUInt32).toInt32))])) _
  refine XS.iconst X10.here hx rfl (hb hby at_137) ?_
  show Steps p.tables e below (T10.setTop (mkF m 138 #[.val (.int p0), .val (.long q1), .second, .val (.int p2), .val (.long q3), .second, .val (.int p4), .val (.ref ra), .val (.ref rb), .val (.int how), .val (.long idB), .second, .val (.ref b1), .val (.ref b5), .val (.int (1 : Int32)), .val (.int (1 : Int32)), .unset] [(.int (3 : Int32)), (.int ((p4.toUInt32 >>> ((8 : Int32) &&& 31).toUInt32).toInt32))])) _
  refine XS.iand X10.here hx rfl (hb hby at_138) rfl ?_
  show Steps p.tables e below (T10.setTop (mkF m 139 #[.val (.int p0), .val (.long q1), .second, .val (.int p2), .val (.long q3), .second, .val (.int p4), .val (.ref ra), .val (.ref rb), .val (.int how), .val (.long idB), .second, .val (.ref b1), .val (.ref b5), .val (.int (1 : Int32)), .val (.int (1 : Int32)), .unset] [(.int (((p4.toUInt32 >>> ((8 : Int32) &&& 31).toUInt32).toInt32) &&& (3 : Int32)))])) _
  refine XS.istore X10.here hx rfl (hb hby at_139) rfl (l' := #[.val (.int p0), .val (.long q1), .second, .val (.int p2), .val (.long q3), .second, .val (.int p4), .val (.ref ra), .val (.ref rb), .val (.int how), .val (.long idB), .second, .val (.ref b1), .val (.ref b5), .val (.int (1 : Int32)), .val (.int (1 : Int32)), .val (.int (((p4.toUInt32 >>> ((8 : Int32) &&& 31).toUInt32).toInt32) &&& (3 : Int32)))]) rfl ?_
  show Steps p.tables e below (T10.setTop (mkF m 141 #[.val (.int p0), .val (.long q1), .second, .val (.int p2), .val (.long q3), .second, .val (.int p4), .val (.ref ra), .val (.ref rb), .val (.int how), .val (.long idB), .second, .val (.ref b1), .val (.ref b5), .val (.int (1 : Int32)), .val (.int (1 : Int32)), .val (.int (((p4.toUInt32 >>> ((8 : Int32) &&& 31).toUInt32).toInt32) &&& (3 : Int32)))] [])) _
  refine XS.iload X10.here hx rfl (hb hby at_141) rfl ?_
  show Steps p.tables e below (T10.setTop (mkF m 143 #[.val (.int p0), .val (.long q1), .second, .val (.int p2), .val (.long q3), .second, .val (.int p4), .val (.ref ra), .val (.ref rb), .val (.int how), .val (.long idB), .second, .val (.ref b1), .val (.ref b5), .val (.int (1 : Int32)), .val (.int (1 : Int32)), .val (.int (((p4.toUInt32 >>> ((8 : Int32) &&& 31).toUInt32).toInt32) &&& (3 : Int32)))] [(.int (((p4.toUInt32 >>> ((8 : Int32) &&& 31).toUInt32).toInt32) &&& (3 : Int32)))])) _
  refine XS.iconst X10.here hx rfl (hb hby at_143) ?_
  show Steps p.tables e below (T10.setTop (mkF m 144 #[.val (.int p0), .val (.long q1), .second, .val (.int p2), .val (.long q3), .second, .val (.int p4), .val (.ref ra), .val (.ref rb), .val (.int how), .val (.long idB), .second, .val (.ref b1), .val (.ref b5), .val (.int (1 : Int32)), .val (.int (1 : Int32)), .val (.int (((p4.toUInt32 >>> ((8 : Int32) &&& 31).toUInt32).toInt32) &&& (3 : Int32)))] [(.int (1 : Int32)), (.int (((p4.toUInt32 >>> ((8 : Int32) &&& 31).toUInt32).toInt32) &&& (3 : Int32)))])) _
  refine XS.icmpYes X10.here hx rfl (pc0 := 144) (pc' := 171) rfl (hb hby at_144) rfl (feq hc144).2 (by decide) (by decide) ?_
  show Steps p.tables e below (T10.setTop (mkF m 171 #[.val (.int p0), .val (.long q1), .second, .val (.int p2), .val (.long q3), .second, .val (.int p4), .val (.ref ra), .val (.ref rb), .val (.int how), .val (.long idB), .second, .val (.ref b1), .val (.ref b5), .val (.int (1 : Int32)), .val (.int (1 : Int32)), .val (.int (((p4.toUInt32 >>> ((8 : Int32) &&& 31).toUInt32).toInt32) &&& (3 : Int32)))] [])) _
  refine XS.iload X10.here hx rfl (hb hby at_171) rfl ?_
  show Steps p.tables e below (T10.setTop (mkF m 173 #[.val (.int p0), .val (.long q1), .second, .val (.int p2), .val (.long q3), .second, .val (.int p4), .val (.ref ra), .val (.ref rb), .val (.int how), .val (.long idB), .second, .val (.ref b1), .val (.ref b5), .val (.int (1 : Int32)), .val (.int (1 : Int32)), .val (.int (((p4.toUInt32 >>> ((8 : Int32) &&& 31).toUInt32).toInt32) &&& (3 : Int32)))] [(.int (((p4.toUInt32 >>> ((8 : Int32) &&& 31).toUInt32).toInt32) &&& (3 : Int32)))])) _
  refine XS.iconst X10.here hx rfl (hb hby at_173) ?_
  show Steps p.tables e below (T10.setTop (mkF m 174 #[.val (.int p0), .val (.long q1), .second, .val (.int p2), .val (.long q3), .second, .val (.int p4), .val (.ref ra), .val (.ref rb), .val (.int how), .val (.long idB), .second, .val (.ref b1), .val (.ref b5), .val (.int (1 : Int32)), .val (.int (1 : Int32)), .val (.int (((p4.toUInt32 >>> ((8 : Int32) &&& 31).toUInt32).toInt32) &&& (3 : Int32)))] [(.int (2 : Int32)), (.int (((p4.toUInt32 >>> ((8 : Int32) &&& 31).toUInt32).toInt32) &&& (3 : Int32)))])) _
  refine XS.icmpYes X10.here hx rfl (pc0 := 174) (pc' := 204) rfl (hb hby at_174) rfl (feq hc174).2 (by decide) (by decide) ?_
  show Steps p.tables e below (T10.setTop (mkF m 204 #[.val (.int p0), .val (.long q1), .second, .val (.int p2), .val (.long q3), .second, .val (.int p4), .val (.ref ra), .val (.ref rb), .val (.int how), .val (.long idB), .second, .val (.ref b1), .val (.ref b5), .val (.int (1 : Int32)), .val (.int (1 : Int32)), .val (.int (((p4.toUInt32 >>> ((8 : Int32) &&& 31).toUInt32).toInt32) &&& (3 : Int32)))] [])) _
  refine XS.iload X10.here hx rfl (hb hby at_204) rfl ?_
  show Steps p.tables e below (T10.setTop (mkF m 206 #[.val (.int p0), .val (.long q1), .second, .val (.int p2), .val (.long q3), .second, .val (.int p4), .val (.ref ra), .val (.ref rb), .val (.int how), .val (.long idB), .second, .val (.ref b1), .val (.ref b5), .val (.int (1 : Int32)), .val (.int (1 : Int32)), .val (.int (((p4.toUInt32 >>> ((8 : Int32) &&& 31).toUInt32).toInt32) &&& (3 : Int32)))] [(.int (((p4.toUInt32 >>> ((8 : Int32) &&& 31).toUInt32).toInt32) &&& (3 : Int32)))])) _
  refine XS.iconst X10.here hx rfl (hb hby at_206) ?_
  show Steps p.tables e below (T10.setTop (mkF m 207 #[.val (.int p0), .val (.long q1), .second, .val (.int p2), .val (.long q3), .second, .val (.int p4), .val (.ref ra), .val (.ref rb), .val (.int how), .val (.long idB), .second, .val (.ref b1), .val (.ref b5), .val (.int (1 : Int32)), .val (.int (1 : Int32)), .val (.int (((p4.toUInt32 >>> ((8 : Int32) &&& 31).toUInt32).toInt32) &&& (3 : Int32)))] [(.int (3 : Int32)), (.int (((p4.toUInt32 >>> ((8 : Int32) &&& 31).toUInt32).toInt32) &&& (3 : Int32)))])) _
  refine XS.icmpYes X10.here hx rfl (pc0 := 207) (pc' := 232) rfl (hb hby at_207) rfl (feq hc207).2 (by decide) (by decide) ?_
  show Steps p.tables e below (T10.setTop (mkF m 232 #[.val (.int p0), .val (.long q1), .second, .val (.int p2), .val (.long q3), .second, .val (.int p4), .val (.ref ra), .val (.ref rb), .val (.int how), .val (.long idB), .second, .val (.ref b1), .val (.ref b5), .val (.int (1 : Int32)), .val (.int (1 : Int32)), .val (.int (((p4.toUInt32 >>> ((8 : Int32) &&& 31).toUInt32).toInt32) &&& (3 : Int32)))] [])) _
  refine XS.iload X10.here hx rfl (hb hby at_232) rfl ?_
  show Steps p.tables e below (T10.setTop (mkF m 234 #[.val (.int p0), .val (.long q1), .second, .val (.int p2), .val (.long q3), .second, .val (.int p4), .val (.ref ra), .val (.ref rb), .val (.int how), .val (.long idB), .second, .val (.ref b1), .val (.ref b5), .val (.int (1 : Int32)), .val (.int (1 : Int32)), .val (.int (((p4.toUInt32 >>> ((8 : Int32) &&& 31).toUInt32).toInt32) &&& (3 : Int32)))] [(.int (1 : Int32))])) _
  exact retN X10 hx (t := .boolean) hret (by simp) (hb hby at_234) hr
set_option maxRecDepth 65536 in
set_option maxHeartbeats 40000000 in
theorem tail_tfttf (l : Launch) (Z : State) (a0 : Array Value) (hw : ∀ d ∈ tables_1, d.before a0 Z = true) (p0 : Int32) (q1 : Int64) (p2 : Int32) (q3 : Int64) (p4 : Int32) (ra : Addr) (rb : Addr) (how : Int32) (idB : Int64) (h0 : Heap) (n0 : Nat) (Z0 : n0 ≤ h0.size) (E_ra : Exa Z h0 ra "com/example/lessor/lessor/namespace/FileType") (E_rb : Exa Z h0 rb "com/example/lessor/lessor/namespace/FileType") (ha84 : ra = rb) (hc91 : q1 = idB) (hc144 : ¬ ((((p4.toUInt32 >>> ((8 : Int32) &&& 31).toUInt32).toInt32) &&& (3 : Int32)) = (1 : Int32))) (hc174 : ¬ ((((p4.toUInt32 >>> ((8 : Int32) &&& 31).toUInt32).toInt32) &&& (3 : Int32)) = (2 : Int32))) (hc207 : (((p4.toUInt32 >>> ((8 : Int32) &&& 31).toUInt32).toInt32) &&& (3 : Int32)) = (3 : Int32))
    {p : Program} {e : Env} {s : State} {m : MethodId} {args : Array Value} {below : List Frame} {meth : Method} {c : Code} {s₁ : State} {locs : List Loc} (X0 : Stand p l e room_1 s m args below meth c s₁ locs 0 0) (N0 : Fr n0 locs) (hx : p.tables.exec = Jvm.exec) (hZ : Z.Warmed39 s.vm) (hby : c.code = code) (hml : c.maxLocals = 17) (hown : s.vm.findClass "com/example/lessor/lessor/namespace/BindingEqualsPinLaw" = some m.cls) (hret : meth.sig.returnType = ret) (hlk : meth.locks = false) (e0 : s₁.heap = h0) :
    ∃ s₂ o, Steps p.tables e below (s₁.setTop (mkF m 55 #[.val (.int p0), .val (.long q1), .second, .val (.int p2), .val (.long q3), .second, .val (.int p4), .val (.ref ra), .val (.ref rb), .val (.int how), .val (.long idB), .second, .unset, .unset, .unset, .unset, .unset] [])) s₂ ∧ s₂.status = .running ∧ Ended s₂ below o ∧ (∃ v L, o = .returned v ∧ (v = some (.int (1 : Int32)) ∧ Fr n0 L) ∧ FrameEnd s o s₂ L room_1.cells room_1.slots) := by
  obtain ⟨T1, h1, X1, e1, E1, A1, D1, -, st1⟩ := newO X0 hx hZ hown (hw _ (List.mem_of_getElem? (i := 9) rfl)) (hw _ (List.mem_of_getElem? (i := 10) rfl)) (hw _ (List.mem_of_getElem? (i := 11) rfl)) e0 (g := (mkF m 55 #[.val (.int p0), .val (.long q1), .second, .val (.int p2), .val (.long q3), .second, .val (.int p4), .val (.ref ra), .val (.ref rb), .val (.int how), .val (.long idB), .second, .unset, .unset, .unset, .unset, .unset] [])) rfl (hb hby at_55) (by decide) (by decide)
  obtain ⟨b1, g1⟩ : ∃ z, z = h0.size := ⟨_, rfl⟩
  rw [← g1] at A1 D1 st1
  have g_b1 : n0 ≤ b1 := Nat.le_trans Z0 (Nat.le_of_eq g1.symm)
  have sz_b1 : h0.size ≤ b1 := Nat.le_trans (Keep.refl h0 []).1 (Nat.le_of_eq g1.symm)
  have E_b1 := A1
  have F_type_b1 : Fld Z h1 b1 "com/example/lessor/lessor/namespace/Binding" "type" "Lcom/example/lessor/lessor/namespace/FileType;" .null := D1 (Or.inr (hw _ (List.mem_of_getElem? (i := 25) rfl))) (ty := (.object "com/example/lessor/lessor/namespace/FileType")) (by decide)
  have F_identifier_b1 : Fld Z h1 b1 "com/example/lessor/lessor/namespace/Binding" "identifier" "J" (.long (0 : Int64)) := D1 (Or.inr (hw _ (List.mem_of_getElem? (i := 27) rfl))) (ty := .long) (by decide)
  have K2 : Keep h0 h1 [] := (Keep.refl h0 []).ext E1
  obtain ⟨_, _, ⟨T3, L3, k3, n3⟩, -, X3, ⟨Lc3, hQ3, l3, y3, z3⟩, st3⟩ := X1.specialBack hx (y := (⟨"com/example/lessor/lessor/namespace/Binding", "<init>", "(Lcom/example/lessor/lessor/namespace/FileType;J)V"⟩ : MethodName)) rfl hown (mvT hZ (hw _ (List.mem_of_getElem? (i := 12) rfl))) (mvT hZ (hw _ (List.mem_of_getElem? (i := 13) rfl))) (mvT hZ (hw _ (List.mem_of_getElem? (i := 14) rfl))) (by decide) (backOf (W := 1) (rmBinding l Z a0 hw [] b1 ra q1 .null (.long (0 : Int64)) h1 n0 (Nat.le_trans Z0 K2.1) E_b1 (E_ra.ext E1) F_type_b1 g_b1 F_identifier_b1) hZ (hw _ (List.mem_of_getElem? (i := 14) rfl)) (hw _ (List.mem_of_getElem? (i := 11) rfl)) (by decide) (by decide)) (g := (mkF m 62 #[.val (.int p0), .val (.long q1), .second, .val (.int p2), .val (.long q3), .second, .val (.int p4), .val (.ref ra), .val (.ref rb), .val (.int how), .val (.long idB), .second, .unset, .unset, .unset, .unset, .unset] [(.long q1), (.ref ra), (.ref b1), (.ref b1)])) rfl (by rw [hml]; rfl) (Steps.refl _) (a := b1) (argsL := [(.ref ra), (.long q1)]) (rest := [(.ref b1)]) (lenOf pd__Lcom_example_lessor_lessor_namespace_FileType_J_V rfl) rfl (by show 2 * 0 + _ ≤ _; exact Nat.le_of_eq rfl) (hb hby at_62) (fun _ _ => ⟨rfl, e1, (by decide : 1 + 0 ≤ _), (by decide : 2 + 0 ≤ _)⟩)
  dsimp only [Pt.U, Pt.locs, Pt.cells, Pt.slots] at X3 l3 y3 z3 st3 hQ3
  subst l3 y3 z3
  obtain ⟨rfl, N3q, K3, E3, Ff3, Fd3⟩ := hQ3
  have K4 : Keep h0 T3.heap [] := K2.trans K3 (allS (P := fun x => x ∈ [] ∨ h0.size ≤ x) (Or.inr sz_b1) all0)
  have N3 := Fr.app N0 N3q
  obtain ⟨T5, h5, X5, e5, E5, A5, D5, -, st5⟩ := newO X3 hx hZ hown (hw _ (List.mem_of_getElem? (i := 9) rfl)) (hw _ (List.mem_of_getElem? (i := 10) rfl)) (hw _ (List.mem_of_getElem? (i := 11) rfl)) rfl (g := (mkF m 67 #[.val (.int p0), .val (.long q1), .second, .val (.int p2), .val (.long q3), .second, .val (.int p4), .val (.ref ra), .val (.ref rb), .val (.int how), .val (.long idB), .second, .val (.ref b1), .unset, .unset, .unset, .unset] [])) rfl (hb hby at_67) (by decide) (by decide)
  obtain ⟨b5, g5⟩ : ∃ z, z = T3.heap.size := ⟨_, rfl⟩
  rw [← g5] at A5 D5 st5
  have g_b5 : n0 ≤ b5 := Nat.le_trans (Nat.le_trans Z0 K4.1) (Nat.le_of_eq g5.symm)
  have sz_b5 : h0.size ≤ b5 := Nat.le_trans K4.1 (Nat.le_of_eq g5.symm)
  have E_b5 := A5
  have F_type_b5 : Fld Z h5 b5 "com/example/lessor/lessor/namespace/Binding" "type" "Lcom/example/lessor/lessor/namespace/FileType;" .null := D5 (Or.inr (hw _ (List.mem_of_getElem? (i := 25) rfl))) (ty := (.object "com/example/lessor/lessor/namespace/FileType")) (by decide)
  have F_identifier_b5 : Fld Z h5 b5 "com/example/lessor/lessor/namespace/Binding" "identifier" "J" (.long (0 : Int64)) := D5 (Or.inr (hw _ (List.mem_of_getElem? (i := 27) rfl))) (ty := .long) (by decide)
  have K6 : Keep h0 h5 [] := K4.ext E5
  obtain ⟨_, _, ⟨T7, L7, k7, n7⟩, -, X7, ⟨Lc7, hQ7, l7, y7, z7⟩, st7⟩ := X5.specialBack hx (y := (⟨"com/example/lessor/lessor/namespace/Binding", "<init>", "(Lcom/example/lessor/lessor/namespace/FileType;J)V"⟩ : MethodName)) rfl hown (mvT hZ (hw _ (List.mem_of_getElem? (i := 12) rfl))) (mvT hZ (hw _ (List.mem_of_getElem? (i := 13) rfl))) (mvT hZ (hw _ (List.mem_of_getElem? (i := 14) rfl))) (by decide) (backOf (W := 1) (rmBinding l Z a0 hw [] b5 rb idB .null (.long (0 : Int64)) h5 n0 (Nat.le_trans Z0 K6.1) E_b5 (((E_rb.ext E1).keep K3).ext E5) F_type_b5 g_b5 F_identifier_b5) hZ (hw _ (List.mem_of_getElem? (i := 14) rfl)) (hw _ (List.mem_of_getElem? (i := 11) rfl)) (by decide) (by decide)) (g := (mkF m 75 #[.val (.int p0), .val (.long q1), .second, .val (.int p2), .val (.long q3), .second, .val (.int p4), .val (.ref ra), .val (.ref rb), .val (.int how), .val (.long idB), .second, .val (.ref b1), .unset, .unset, .unset, .unset] [(.long idB), (.ref rb), (.ref b5), (.ref b5)])) rfl (by rw [hml]; rfl) (Steps.refl _) (a := b5) (argsL := [(.ref rb), (.long idB)]) (rest := [(.ref b5)]) (lenOf pd__Lcom_example_lessor_lessor_namespace_FileType_J_V rfl) rfl (by show 2 * 0 + _ ≤ _; exact Nat.le_of_eq rfl) (hb hby at_75) (fun _ _ => ⟨rfl, e5, (by decide : 2 + 0 ≤ _), (by decide : 4 + 0 ≤ _)⟩)
  dsimp only [Pt.U, Pt.locs, Pt.cells, Pt.slots] at X7 l7 y7 z7 st7 hQ7
  subst l7 y7 z7
  obtain ⟨rfl, N7q, K7, E7, Ff7, Fd7⟩ := hQ7
  have K8 : Keep h0 T7.heap [] := K6.trans K7 (allS (P := fun x => x ∈ [] ∨ h0.size ≤ x) (Or.inr sz_b5) all0)
  have N7 := Fr.app N3 N7q
  have ne_b1_b5 : b1 ≠ b5 := Nat.ne_of_lt (Nat.lt_of_lt_of_le E3.lt (Nat.le_of_eq g5.symm))
  obtain ⟨cq9, kq9, q9a, q9b, q9c⟩ := isOf hZ rfl ((E3.ext E5).keep K7)
  obtain ⟨_, _, ⟨T9, L9, k9, n9⟩, -, X9, ⟨Lc9, hQ9, l9, y9, z9⟩, st9⟩ := X7.virtualBack hx (y := (⟨"com/example/lessor/lessor/namespace/Binding", "equals", "(Ljava/lang/Object;)Z"⟩ : MethodName)) (z := (⟨"com/example/lessor/lessor/namespace/Binding", "equals", "(Ljava/lang/Object;)Z"⟩ : MethodName)) hown (mvT hZ (hw _ (List.mem_of_getElem? (i := 28) rfl))) (mvT hZ (hw _ (List.mem_of_getElem? (i := 29) rfl))) (notFace_of_selects (args := #[]) (mvT hZ (hw _ (List.mem_of_getElem? (i := 31) rfl)))) (mvT hZ (hw _ (List.mem_of_getElem? (i := 31) rfl))) (mvT hZ (hw _ (List.mem_of_getElem? (i := 30) rfl))) (by decide) (backOf (W := 0) (rmEq_tf l Z a0 hw [] b1 b5 ra rb q1 idB T7.heap n0 (Nat.le_trans Z0 K8.1) E7 ((Ff3.ext E5).keep K7 (ninS ne_b1_b5 nin0)) Ff7 ha84 ((Fd3.ext E5).keep K7 (ninS ne_b1_b5 nin0)) Fd7 hc91) hZ (hw _ (List.mem_of_getElem? (i := 32) rfl)) (hw _ (List.mem_of_getElem? (i := 11) rfl)) (by decide) (by decide)) q9a q9c (g := (mkF m 105 #[.val (.int p0), .val (.long q1), .second, .val (.int p2), .val (.long q3), .second, .val (.int p4), .val (.ref ra), .val (.ref rb), .val (.int how), .val (.long idB), .second, .val (.ref b1), .val (.ref b5), .val (.int (1 : Int32)), .unset, .unset] [(.ref b5), (.ref b1)])) rfl (by rw [hml]; rfl) (Steps.refl _) (argsL := [(.ref b5)]) (rest := []) (lenOf pd__Ljava_lang_Object__Z rfl) rfl (by show 2 * 0 + _ ≤ _; exact Nat.le_of_eq rfl) (hb hby at_105) (fun _ _ => ⟨rfl, rfl, (by decide : 2 + 0 ≤ _), (by decide : 4 + 0 ≤ _)⟩)
  dsimp only [Pt.U, Pt.locs, Pt.cells, Pt.slots] at X9 l9 y9 z9 st9 hQ9
  subst l9 y9 z9
  obtain ⟨rfl, N9q, e9⟩ := hQ9
  have N9 := Fr.app N7 N9q
  obtain ⟨cq10, kq10, q10a, q10b, q10c⟩ := isOf hZ e9 E7
  obtain ⟨_, _, ⟨T10, L10, k10, n10⟩, -, X10, ⟨Lc10, hQ10, l10, y10, z10⟩, st10⟩ := X9.virtualBack hx (y := (⟨"com/example/lessor/lessor/namespace/Binding", "equals", "(Ljava/lang/Object;)Z"⟩ : MethodName)) (z := (⟨"com/example/lessor/lessor/namespace/Binding", "equals", "(Ljava/lang/Object;)Z"⟩ : MethodName)) hown (mvT hZ (hw _ (List.mem_of_getElem? (i := 28) rfl))) (mvT hZ (hw _ (List.mem_of_getElem? (i := 29) rfl))) (notFace_of_selects (args := #[]) (mvT hZ (hw _ (List.mem_of_getElem? (i := 31) rfl)))) (mvT hZ (hw _ (List.mem_of_getElem? (i := 31) rfl))) (mvT hZ (hw _ (List.mem_of_getElem? (i := 30) rfl))) (by decide) (backOf (W := 0) (rmEq_tf l Z a0 hw [] b5 b1 rb ra idB q1 T7.heap n0 (Nat.le_trans Z0 K8.1) ((E3.ext E5).keep K7) Ff7 ((Ff3.ext E5).keep K7 (ninS ne_b1_b5 nin0)) (Eq.symm ha84) Fd7 ((Fd3.ext E5).keep K7 (ninS ne_b1_b5 nin0)) (Eq.symm hc91)) hZ (hw _ (List.mem_of_getElem? (i := 32) rfl)) (hw _ (List.mem_of_getElem? (i := 11) rfl)) (by decide) (by decide)) q10a q10c (g := (mkF m 117 #[.val (.int p0), .val (.long q1), .second, .val (.int p2), .val (.long q3), .second, .val (.int p4), .val (.ref ra), .val (.ref rb), .val (.int how), .val (.long idB), .second, .val (.ref b1), .val (.ref b5), .val (.int (1 : Int32)), .unset, .unset] [(.ref b1), (.ref b5)])) rfl (by rw [hml]; rfl) (Steps.refl _) (argsL := [(.ref b1)]) (rest := []) (lenOf pd__Ljava_lang_Object__Z rfl) rfl (by show 2 * 0 + _ ≤ _; exact Nat.le_of_eq rfl) (hb hby at_117) (fun _ _ => ⟨rfl, e9, (by decide : 2 + 0 ≤ _), (by decide : 4 + 0 ≤ _)⟩)
  dsimp only [Pt.U, Pt.locs, Pt.cells, Pt.slots] at X10 l10 y10 z10 st10 hQ10
  subst l10 y10 z10
  obtain ⟨rfl, N10q, e10⟩ := hQ10
  have N10 := Fr.app N9 N10q
  obtain ⟨cq11, kq11, q11a, q11b, q11c⟩ := isOf hZ e10 ((E3.ext E5).keep K7)
  obtain ⟨_, _, ⟨T11, L11, k11, n11⟩, -, X11, ⟨Lc11, hQ11, l11, y11, z11⟩, st11⟩ := X10.virtualBack hx (y := (⟨"com/example/lessor/lessor/namespace/Binding", "equals", "(Ljava/lang/Object;)Z"⟩ : MethodName)) (z := (⟨"com/example/lessor/lessor/namespace/Binding", "equals", "(Ljava/lang/Object;)Z"⟩ : MethodName)) hown (mvT hZ (hw _ (List.mem_of_getElem? (i := 28) rfl))) (mvT hZ (hw _ (List.mem_of_getElem? (i := 29) rfl))) (notFace_of_selects (args := #[]) (mvT hZ (hw _ (List.mem_of_getElem? (i := 31) rfl)))) (mvT hZ (hw _ (List.mem_of_getElem? (i := 31) rfl))) (mvT hZ (hw _ (List.mem_of_getElem? (i := 30) rfl))) (by decide) (backOf (W := 0) (rmEq_tf l Z a0 hw [] b1 b1 ra ra q1 q1 T7.heap n0 (Nat.le_trans Z0 K8.1) ((E3.ext E5).keep K7) ((Ff3.ext E5).keep K7 (ninS ne_b1_b5 nin0)) ((Ff3.ext E5).keep K7 (ninS ne_b1_b5 nin0)) rfl ((Fd3.ext E5).keep K7 (ninS ne_b1_b5 nin0)) ((Fd3.ext E5).keep K7 (ninS ne_b1_b5 nin0)) rfl) hZ (hw _ (List.mem_of_getElem? (i := 32) rfl)) (hw _ (List.mem_of_getElem? (i := 11) rfl)) (by decide) (by decide)) q11a q11c (g := (mkF m 219 #[.val (.int p0), .val (.long q1), .second, .val (.int p2), .val (.long q3), .second, .val (.int p4), .val (.ref ra), .val (.ref rb), .val (.int how), .val (.long idB), .second, .val (.ref b1), .val (.ref b5), .val (.int (1 : Int32)), .val (.int (1 : Int32)), .val (.int (((p4.toUInt32 >>> ((8 : Int32) &&& 31).toUInt32).toInt32) &&& (3 : Int32)))] [(.ref b1), (.ref b1)])) rfl (by rw [hml]; rfl) (Steps.refl _) (argsL := [(.ref b1)]) (rest := []) (lenOf pd__Ljava_lang_Object__Z rfl) rfl (by show 2 * 0 + _ ≤ _; exact Nat.le_of_eq rfl) (hb hby at_219) (fun _ _ => ⟨rfl, e10, (by decide : 2 + 0 ≤ _), (by decide : 4 + 0 ≤ _)⟩)
  dsimp only [Pt.U, Pt.locs, Pt.cells, Pt.slots] at X11 l11 y11 z11 st11 hQ11
  subst l11 y11 z11
  obtain ⟨rfl, N11q, e11⟩ := hQ11
  have N11 := Fr.app N10 N11q
  obtain ⟨fs, hr, hrun, hended, hW, hsame⟩ := X11.leave (v := some (.int (1 : Int32))) (fun h => by rw [hret] at h; cases h)
  refine ⟨_, _, ?_, hrun, hended, _, _, rfl, ⟨rfl, N11⟩, ⟨_, rfl⟩, hW, hsame.mono (by decide) (by decide)⟩
  show Steps p.tables e below (s₁.setTop (mkF m 55 #[.val (.int p0), .val (.long q1), .second, .val (.int p2), .val (.long q3), .second, .val (.int p4), .val (.ref ra), .val (.ref rb), .val (.int how), .val (.long idB), .second, .unset, .unset, .unset, .unset, .unset] [])) _
  refine st1 _ ?_
  show Steps p.tables e below (T1.setTop (mkF m 58 #[.val (.int p0), .val (.long q1), .second, .val (.int p2), .val (.long q3), .second, .val (.int p4), .val (.ref ra), .val (.ref rb), .val (.int how), .val (.long idB), .second, .unset, .unset, .unset, .unset, .unset] [(.ref b1)])) _
  refine XS.dup X1.here hx rfl (hb hby at_58) rfl rfl ?_
  show Steps p.tables e below (T1.setTop (mkF m 59 #[.val (.int p0), .val (.long q1), .second, .val (.int p2), .val (.long q3), .second, .val (.int p4), .val (.ref ra), .val (.ref rb), .val (.int how), .val (.long idB), .second, .unset, .unset, .unset, .unset, .unset] [(.ref b1), (.ref b1)])) _
  refine XS.aload X1.here hx rfl (hb hby at_59) rfl rfl ?_
  show Steps p.tables e below (T1.setTop (mkF m 61 #[.val (.int p0), .val (.long q1), .second, .val (.int p2), .val (.long q3), .second, .val (.int p4), .val (.ref ra), .val (.ref rb), .val (.int how), .val (.long idB), .second, .unset, .unset, .unset, .unset, .unset] [(.ref ra), (.ref b1), (.ref b1)])) _
  refine XS.lloadN X1.here hx rfl (hb hby at_61) rfl ?_
  show Steps p.tables e below (T1.setTop (mkF m 62 #[.val (.int p0), .val (.long q1), .second, .val (.int p2), .val (.long q3), .second, .val (.int p4), .val (.ref ra), .val (.ref rb), .val (.int how), .val (.long idB), .second, .unset, .unset, .unset, .unset, .unset] [(.long q1), (.ref ra), (.ref b1), (.ref b1)])) _
  refine st3.trans ?_
  show Steps p.tables e below (T3.setTop (mkF m 65 #[.val (.int p0), .val (.long q1), .second, .val (.int p2), .val (.long q3), .second, .val (.int p4), .val (.ref ra), .val (.ref rb), .val (.int how), .val (.long idB), .second, .unset, .unset, .unset, .unset, .unset] [(.ref b1)])) _
  refine XS.astore X3.here hx rfl (hb hby at_65) rfl rfl (l' := #[.val (.int p0), .val (.long q1), .second, .val (.int p2), .val (.long q3), .second, .val (.int p4), .val (.ref ra), .val (.ref rb), .val (.int how), .val (.long idB), .second, .val (.ref b1), .unset, .unset, .unset, .unset]) rfl ?_
  show Steps p.tables e below (T3.setTop (mkF m 67 #[.val (.int p0), .val (.long q1), .second, .val (.int p2), .val (.long q3), .second, .val (.int p4), .val (.ref ra), .val (.ref rb), .val (.int how), .val (.long idB), .second, .val (.ref b1), .unset, .unset, .unset, .unset] [])) _
  refine st5 _ ?_
  show Steps p.tables e below (T5.setTop (mkF m 70 #[.val (.int p0), .val (.long q1), .second, .val (.int p2), .val (.long q3), .second, .val (.int p4), .val (.ref ra), .val (.ref rb), .val (.int how), .val (.long idB), .second, .val (.ref b1), .unset, .unset, .unset, .unset] [(.ref b5)])) _
  refine XS.dup X5.here hx rfl (hb hby at_70) rfl rfl ?_
  show Steps p.tables e below (T5.setTop (mkF m 71 #[.val (.int p0), .val (.long q1), .second, .val (.int p2), .val (.long q3), .second, .val (.int p4), .val (.ref ra), .val (.ref rb), .val (.int how), .val (.long idB), .second, .val (.ref b1), .unset, .unset, .unset, .unset] [(.ref b5), (.ref b5)])) _
  refine XS.aload X5.here hx rfl (hb hby at_71) rfl rfl ?_
  show Steps p.tables e below (T5.setTop (mkF m 73 #[.val (.int p0), .val (.long q1), .second, .val (.int p2), .val (.long q3), .second, .val (.int p4), .val (.ref ra), .val (.ref rb), .val (.int how), .val (.long idB), .second, .val (.ref b1), .unset, .unset, .unset, .unset] [(.ref rb), (.ref b5), (.ref b5)])) _
  refine XS.lload X5.here hx rfl (hb hby at_73) rfl ?_
  show Steps p.tables e below (T5.setTop (mkF m 75 #[.val (.int p0), .val (.long q1), .second, .val (.int p2), .val (.long q3), .second, .val (.int p4), .val (.ref ra), .val (.ref rb), .val (.int how), .val (.long idB), .second, .val (.ref b1), .unset, .unset, .unset, .unset] [(.long idB), (.ref rb), (.ref b5), (.ref b5)])) _
  refine st7.trans ?_
  show Steps p.tables e below (T7.setTop (mkF m 78 #[.val (.int p0), .val (.long q1), .second, .val (.int p2), .val (.long q3), .second, .val (.int p4), .val (.ref ra), .val (.ref rb), .val (.int how), .val (.long idB), .second, .val (.ref b1), .unset, .unset, .unset, .unset] [(.ref b5)])) _
  refine XS.astore X7.here hx rfl (hb hby at_78) rfl rfl (l' := #[.val (.int p0), .val (.long q1), .second, .val (.int p2), .val (.long q3), .second, .val (.int p4), .val (.ref ra), .val (.ref rb), .val (.int how), .val (.long idB), .second, .val (.ref b1), .val (.ref b5), .unset, .unset, .unset]) rfl ?_
  show Steps p.tables e below (T7.setTop (mkF m 80 #[.val (.int p0), .val (.long q1), .second, .val (.int p2), .val (.long q3), .second, .val (.int p4), .val (.ref ra), .val (.ref rb), .val (.int how), .val (.long idB), .second, .val (.ref b1), .val (.ref b5), .unset, .unset, .unset] [])) _
  refine XS.aload X7.here hx rfl (hb hby at_80) rfl rfl ?_
  show Steps p.tables e below (T7.setTop (mkF m 82 #[.val (.int p0), .val (.long q1), .second, .val (.int p2), .val (.long q3), .second, .val (.int p4), .val (.ref ra), .val (.ref rb), .val (.int how), .val (.long idB), .second, .val (.ref b1), .val (.ref b5), .unset, .unset, .unset] [(.ref ra)])) _
  refine XS.aload X7.here hx rfl (hb hby at_82) rfl rfl ?_
  show Steps p.tables e below (T7.setTop (mkF m 84 #[.val (.int p0), .val (.long q1), .second, .val (.int p2), .val (.long q3), .second, .val (.int p4), .val (.ref ra), .val (.ref rb), .val (.int how), .val (.long idB), .second, .val (.ref b1), .val (.ref b5), .unset, .unset, .unset] [(.ref rb), (.ref ra)])) _
  refine Jvm.RoadKit.acmp (g := (mkF m 84 #[.val (.int p0), .val (.long q1), .second, .val (.int p2), .val (.long q3), .second, .val (.int p4), .val (.ref ra), .val (.ref rb), .val (.int how), .val (.long idB), .second, .val (.ref b1), .val (.ref b5), .unset, .unset, .unset] [(.ref rb), (.ref ra)])) X7 hx rfl rfl rfl (pc0 := 84) (pc' := 87) (same := true) rfl (hb hby at_84) rfl (decide_eq_true (congrArg Value.ref ha84)) (by decide) (by decide) ?_
  show Steps p.tables e below (T7.setTop (mkF m 87 #[.val (.int p0), .val (.long q1), .second, .val (.int p2), .val (.long q3), .second, .val (.int p4), .val (.ref ra), .val (.ref rb), .val (.int how), .val (.long idB), .second, .val (.ref b1), .val (.ref b5), .unset, .unset, .unset] [])) _
  refine XS.lloadN X7.here hx rfl (hb hby at_87) rfl ?_
  show Steps p.tables e below (T7.setTop (mkF m 88 #[.val (.int p0), .val (.long q1), .second, .val (.int p2), .val (.long q3), .second, .val (.int p4), .val (.ref ra), .val (.ref rb), .val (.int how), .val (.long idB), .second, .val (.ref b1), .val (.ref b5), .unset, .unset, .unset] [(.long q1)])) _
  refine XS.lload X7.here hx rfl (hb hby at_88) rfl ?_
  show Steps p.tables e below (T7.setTop (mkF m 90 #[.val (.int p0), .val (.long q1), .second, .val (.int p2), .val (.long q3), .second, .val (.int p4), .val (.ref ra), .val (.ref rb), .val (.int how), .val (.long idB), .second, .val (.ref b1), .val (.ref b5), .unset, .unset, .unset] [(.long idB), (.long q1)])) _
  refine XS.lcmp X7.here hx rfl (hb hby at_90) rfl ?_
  show Steps p.tables e below (T7.setTop (mkF m 91 #[.val (.int p0), .val (.long q1), .second, .val (.int p2), .val (.long q3), .second, .val (.int p4), .val (.ref ra), .val (.ref rb), .val (.int how), .val (.long idB), .second, .val (.ref b1), .val (.ref b5), .unset, .unset, .unset] [(.int (lcmpW q1 idB))])) _
  refine XS.ifNo X7.here hx rfl (hb hby at_91) rfl ((if0 _ _).trans (teq ((lw_eq q1 idB).mpr hc91)).2) ?_
  show Steps p.tables e below (T7.setTop (mkF m 94 #[.val (.int p0), .val (.long q1), .second, .val (.int p2), .val (.long q3), .second, .val (.int p4), .val (.ref ra), .val (.ref rb), .val (.int how), .val (.long idB), .second, .val (.ref b1), .val (.ref b5), .unset, .unset, .unset] [])) _
  refine XS.iconst X7.here hx rfl (hb hby at_94) ?_
  show Steps p.tables e below (T7.setTop (mkF m 95 #[.val (.int p0), .val (.long q1), .second, .val (.int p2), .val (.long q3), .second, .val (.int p4), .val (.ref ra), .val (.ref rb), .val (.int how), .val (.long idB), .second, .val (.ref b1), .val (.ref b5), .unset, .unset, .unset] [(.int (1 : Int32))])) _
  refine XS.goto X7.here hx rfl (pc0 := 95) (pc' := 99) rfl (hb hby at_95) (by decide) (by decide) ?_
  show Steps p.tables e below (T7.setTop (mkF m 99 #[.val (.int p0), .val (.long q1), .second, .val (.int p2), .val (.long q3), .second, .val (.int p4), .val (.ref ra), .val (.ref rb), .val (.int how), .val (.long idB), .second, .val (.ref b1), .val (.ref b5), .unset, .unset, .unset] [(.int (1 : Int32))])) _
  refine XS.istore X7.here hx rfl (hb hby at_99) rfl (l' := #[.val (.int p0), .val (.long q1), .second, .val (.int p2), .val (.long q3), .second, .val (.int p4), .val (.ref ra), .val (.ref rb), .val (.int how), .val (.long idB), .second, .val (.ref b1), .val (.ref b5), .val (.int (1 : Int32)), .unset, .unset]) rfl ?_
  show Steps p.tables e below (T7.setTop (mkF m 101 #[.val (.int p0), .val (.long q1), .second, .val (.int p2), .val (.long q3), .second, .val (.int p4), .val (.ref ra), .val (.ref rb), .val (.int how), .val (.long idB), .second, .val (.ref b1), .val (.ref b5), .val (.int (1 : Int32)), .unset, .unset] [])) _
  refine XS.aload X7.here hx rfl (hb hby at_101) rfl rfl ?_
  show Steps p.tables e below (T7.setTop (mkF m 103 #[.val (.int p0), .val (.long q1), .second, .val (.int p2), .val (.long q3), .second, .val (.int p4), .val (.ref ra), .val (.ref rb), .val (.int how), .val (.long idB), .second, .val (.ref b1), .val (.ref b5), .val (.int (1 : Int32)), .unset, .unset] [(.ref b1)])) _
  refine XS.aload X7.here hx rfl (hb hby at_103) rfl rfl ?_
  show Steps p.tables e below (T7.setTop (mkF m 105 #[.val (.int p0), .val (.long q1), .second, .val (.int p2), .val (.long q3), .second, .val (.int p4), .val (.ref ra), .val (.ref rb), .val (.int how), .val (.long idB), .second, .val (.ref b1), .val (.ref b5), .val (.int (1 : Int32)), .unset, .unset] [(.ref b5), (.ref b1)])) _
  refine st9.trans ?_
  show Steps p.tables e below (T9.setTop (mkF m 108 #[.val (.int p0), .val (.long q1), .second, .val (.int p2), .val (.long q3), .second, .val (.int p4), .val (.ref ra), .val (.ref rb), .val (.int how), .val (.long idB), .second, .val (.ref b1), .val (.ref b5), .val (.int (1 : Int32)), .unset, .unset] [(.int (1 : Int32))])) _
  refine XS.iload X9.here hx rfl (hb hby at_108) rfl ?_
  show Steps p.tables e below (T9.setTop (mkF m 110 #[.val (.int p0), .val (.long q1), .second, .val (.int p2), .val (.long q3), .second, .val (.int p4), .val (.ref ra), .val (.ref rb), .val (.int how), .val (.long idB), .second, .val (.ref b1), .val (.ref b5), .val (.int (1 : Int32)), .unset, .unset] [(.int (1 : Int32)), (.int (1 : Int32))])) _
  refine XS.icmpNo X9.here hx rfl (hb hby at_110) rfl (teq (by decide)).2 ?_
  show Steps p.tables e below (T9.setTop (mkF m 113 #[.val (.int p0), .val (.long q1), .second, .val (.int p2), .val (.long q3), .second, .val (.int p4), .val (.ref ra), .val (.ref rb), .val (.int how), .val (.long idB), .second, .val (.ref b1), .val (.ref b5), .val (.int (1 : Int32)), .unset, .unset] [])) _
  refine XS.aload X9.here hx rfl (hb hby at_113) rfl rfl ?_
  show Steps p.tables e below (T9.setTop (mkF m 115 #[.val (.int p0), .val (.long q1), .second, .val (.int p2), .val (.long q3), .second, .val (.int p4), .val (.ref ra), .val (.ref rb), .val (.int how), .val (.long idB), .second, .val (.ref b1), .val (.ref b5), .val (.int (1 : Int32)), .unset, .unset] [(.ref b5)])) _
  refine XS.aload X9.here hx rfl (hb hby at_115) rfl rfl ?_
  show Steps p.tables e below (T9.setTop (mkF m 117 #[.val (.int p0), .val (.long q1), .second, .val (.int p2), .val (.long q3), .second, .val (.int p4), .val (.ref ra), .val (.ref rb), .val (.int how), .val (.long idB), .second, .val (.ref b1), .val (.ref b5), .val (.int (1 : Int32)), .unset, .unset] [(.ref b1), (.ref b5)])) _
  refine st10.trans ?_
  show Steps p.tables e below (T10.setTop (mkF m 120 #[.val (.int p0), .val (.long q1), .second, .val (.int p2), .val (.long q3), .second, .val (.int p4), .val (.ref ra), .val (.ref rb), .val (.int how), .val (.long idB), .second, .val (.ref b1), .val (.ref b5), .val (.int (1 : Int32)), .unset, .unset] [(.int (1 : Int32))])) _
  refine XS.iload X10.here hx rfl (hb hby at_120) rfl ?_
  show Steps p.tables e below (T10.setTop (mkF m 122 #[.val (.int p0), .val (.long q1), .second, .val (.int p2), .val (.long q3), .second, .val (.int p4), .val (.ref ra), .val (.ref rb), .val (.int how), .val (.long idB), .second, .val (.ref b1), .val (.ref b5), .val (.int (1 : Int32)), .unset, .unset] [(.int (1 : Int32)), (.int (1 : Int32))])) _
  refine XS.icmpNo X10.here hx rfl (hb hby at_122) rfl (teq (by decide)).2 ?_
  show Steps p.tables e below (T10.setTop (mkF m 125 #[.val (.int p0), .val (.long q1), .second, .val (.int p2), .val (.long q3), .second, .val (.int p4), .val (.ref ra), .val (.ref rb), .val (.int how), .val (.long idB), .second, .val (.ref b1), .val (.ref b5), .val (.int (1 : Int32)), .unset, .unset] [])) _
  refine XS.iconst X10.here hx rfl (hb hby at_125) ?_
  show Steps p.tables e below (T10.setTop (mkF m 126 #[.val (.int p0), .val (.long q1), .second, .val (.int p2), .val (.long q3), .second, .val (.int p4), .val (.ref ra), .val (.ref rb), .val (.int how), .val (.long idB), .second, .val (.ref b1), .val (.ref b5), .val (.int (1 : Int32)), .unset, .unset] [(.int (1 : Int32))])) _
  refine XS.goto X10.here hx rfl (pc0 := 126) (pc' := 130) rfl (hb hby at_126) (by decide) (by decide) ?_
  show Steps p.tables e below (T10.setTop (mkF m 130 #[.val (.int p0), .val (.long q1), .second, .val (.int p2), .val (.long q3), .second, .val (.int p4), .val (.ref ra), .val (.ref rb), .val (.int how), .val (.long idB), .second, .val (.ref b1), .val (.ref b5), .val (.int (1 : Int32)), .unset, .unset] [(.int (1 : Int32))])) _
  refine XS.istore X10.here hx rfl (hb hby at_130) rfl (l' := #[.val (.int p0), .val (.long q1), .second, .val (.int p2), .val (.long q3), .second, .val (.int p4), .val (.ref ra), .val (.ref rb), .val (.int how), .val (.long idB), .second, .val (.ref b1), .val (.ref b5), .val (.int (1 : Int32)), .val (.int (1 : Int32)), .unset]) rfl ?_
  show Steps p.tables e below (T10.setTop (mkF m 132 #[.val (.int p0), .val (.long q1), .second, .val (.int p2), .val (.long q3), .second, .val (.int p4), .val (.ref ra), .val (.ref rb), .val (.int how), .val (.long idB), .second, .val (.ref b1), .val (.ref b5), .val (.int (1 : Int32)), .val (.int (1 : Int32)), .unset] [])) _
  refine XS.iload X10.here hx rfl (hb hby at_132) rfl ?_
  show Steps p.tables e below (T10.setTop (mkF m 134 #[.val (.int p0), .val (.long q1), .second, .val (.int p2), .val (.long q3), .second, .val (.int p4), .val (.ref ra), .val (.ref rb), .val (.int how), .val (.long idB), .second, .val (.ref b1), .val (.ref b5), .val (.int (1 : Int32)), .val (.int (1 : Int32)), .unset] [(.int p4)])) _
  refine XS.bipush X10.here hx rfl (hb hby at_134) ?_
  show Steps p.tables e below (T10.setTop (mkF m 136 #[.val (.int p0), .val (.long q1), .second, .val (.int p2), .val (.long q3), .second, .val (.int p4), .val (.ref ra), .val (.ref rb), .val (.int how), .val (.long idB), .second, .val (.ref b1), .val (.ref b5), .val (.int (1 : Int32)), .val (.int (1 : Int32)), .unset] [(.int (8 : Int32)), (.int p4)])) _
  refine XS.iushr X10.here hx rfl (hb hby at_136) rfl ?_
  show Steps p.tables e below (T10.setTop (mkF m 137 #[.val (.int p0), .val (.long q1), .second, .val (.int p2), .val (.long q3), .second, .val (.int p4), .val (.ref ra), .val (.ref rb), .val (.int how), .val (.long idB), .second, .val (.ref b1), .val (.ref b5), .val (.int (1 : Int32)), .val (.int (1 : Int32)), .unset] [(.int ((p4.toUInt32 >>> ((8 : Int32) &&& 31).toUInt32).toInt32))])) _
  refine XS.iconst X10.here hx rfl (hb hby at_137) ?_
  show Steps p.tables e below (T10.setTop (mkF m 138 #[.val (.int p0), .val (.long q1), .second, .val (.int p2), .val (.long q3), .second, .val (.int p4), .val (.ref ra), .val (.ref rb), .val (.int how), .val (.long idB), .second, .val (.ref b1), .val (.ref b5), .val (.int (1 : Int32)), .val (.int (1 : Int32)), .unset] [(.int (3 : Int32)), (.int ((p4.toUInt32 >>> ((8 : Int32) &&& 31).toUInt32).toInt32))])) _
  refine XS.iand X10.here hx rfl (hb hby at_138) rfl ?_
  show Steps p.tables e below (T10.setTop (mkF m 139 #[.val (.int p0), .val (.long q1), .second, .val (.int p2), .val (.long q3), .second, .val (.int p4), .val (.ref ra), .val (.ref rb), .val (.int how), .val (.long idB), .second, .val (.ref b1), .val (.ref b5), .val (.int (1 : Int32)), .val (.int (1 : Int32)), .unset] [(.int (((p4.toUInt32 >>> ((8 : Int32) &&& 31).toUInt32).toInt32) &&& (3 : Int32)))])) _
  refine XS.istore X10.here hx rfl (hb hby at_139) rfl (l' := #[.val (.int p0), .val (.long q1), .second, .val (.int p2), .val (.long q3), .second, .val (.int p4), .val (.ref ra), .val (.ref rb), .val (.int how), .val (.long idB), .second, .val (.ref b1), .val (.ref b5), .val (.int (1 : Int32)), .val (.int (1 : Int32)), .val (.int (((p4.toUInt32 >>> ((8 : Int32) &&& 31).toUInt32).toInt32) &&& (3 : Int32)))]) rfl ?_
  show Steps p.tables e below (T10.setTop (mkF m 141 #[.val (.int p0), .val (.long q1), .second, .val (.int p2), .val (.long q3), .second, .val (.int p4), .val (.ref ra), .val (.ref rb), .val (.int how), .val (.long idB), .second, .val (.ref b1), .val (.ref b5), .val (.int (1 : Int32)), .val (.int (1 : Int32)), .val (.int (((p4.toUInt32 >>> ((8 : Int32) &&& 31).toUInt32).toInt32) &&& (3 : Int32)))] [])) _
  refine XS.iload X10.here hx rfl (hb hby at_141) rfl ?_
  show Steps p.tables e below (T10.setTop (mkF m 143 #[.val (.int p0), .val (.long q1), .second, .val (.int p2), .val (.long q3), .second, .val (.int p4), .val (.ref ra), .val (.ref rb), .val (.int how), .val (.long idB), .second, .val (.ref b1), .val (.ref b5), .val (.int (1 : Int32)), .val (.int (1 : Int32)), .val (.int (((p4.toUInt32 >>> ((8 : Int32) &&& 31).toUInt32).toInt32) &&& (3 : Int32)))] [(.int (((p4.toUInt32 >>> ((8 : Int32) &&& 31).toUInt32).toInt32) &&& (3 : Int32)))])) _
  refine XS.iconst X10.here hx rfl (hb hby at_143) ?_
  show Steps p.tables e below (T10.setTop (mkF m 144 #[.val (.int p0), .val (.long q1), .second, .val (.int p2), .val (.long q3), .second, .val (.int p4), .val (.ref ra), .val (.ref rb), .val (.int how), .val (.long idB), .second, .val (.ref b1), .val (.ref b5), .val (.int (1 : Int32)), .val (.int (1 : Int32)), .val (.int (((p4.toUInt32 >>> ((8 : Int32) &&& 31).toUInt32).toInt32) &&& (3 : Int32)))] [(.int (1 : Int32)), (.int (((p4.toUInt32 >>> ((8 : Int32) &&& 31).toUInt32).toInt32) &&& (3 : Int32)))])) _
  refine XS.icmpYes X10.here hx rfl (pc0 := 144) (pc' := 171) rfl (hb hby at_144) rfl (feq hc144).2 (by decide) (by decide) ?_
  show Steps p.tables e below (T10.setTop (mkF m 171 #[.val (.int p0), .val (.long q1), .second, .val (.int p2), .val (.long q3), .second, .val (.int p4), .val (.ref ra), .val (.ref rb), .val (.int how), .val (.long idB), .second, .val (.ref b1), .val (.ref b5), .val (.int (1 : Int32)), .val (.int (1 : Int32)), .val (.int (((p4.toUInt32 >>> ((8 : Int32) &&& 31).toUInt32).toInt32) &&& (3 : Int32)))] [])) _
  refine XS.iload X10.here hx rfl (hb hby at_171) rfl ?_
  show Steps p.tables e below (T10.setTop (mkF m 173 #[.val (.int p0), .val (.long q1), .second, .val (.int p2), .val (.long q3), .second, .val (.int p4), .val (.ref ra), .val (.ref rb), .val (.int how), .val (.long idB), .second, .val (.ref b1), .val (.ref b5), .val (.int (1 : Int32)), .val (.int (1 : Int32)), .val (.int (((p4.toUInt32 >>> ((8 : Int32) &&& 31).toUInt32).toInt32) &&& (3 : Int32)))] [(.int (((p4.toUInt32 >>> ((8 : Int32) &&& 31).toUInt32).toInt32) &&& (3 : Int32)))])) _
  refine XS.iconst X10.here hx rfl (hb hby at_173) ?_
  show Steps p.tables e below (T10.setTop (mkF m 174 #[.val (.int p0), .val (.long q1), .second, .val (.int p2), .val (.long q3), .second, .val (.int p4), .val (.ref ra), .val (.ref rb), .val (.int how), .val (.long idB), .second, .val (.ref b1), .val (.ref b5), .val (.int (1 : Int32)), .val (.int (1 : Int32)), .val (.int (((p4.toUInt32 >>> ((8 : Int32) &&& 31).toUInt32).toInt32) &&& (3 : Int32)))] [(.int (2 : Int32)), (.int (((p4.toUInt32 >>> ((8 : Int32) &&& 31).toUInt32).toInt32) &&& (3 : Int32)))])) _
  refine XS.icmpYes X10.here hx rfl (pc0 := 174) (pc' := 204) rfl (hb hby at_174) rfl (feq hc174).2 (by decide) (by decide) ?_
  show Steps p.tables e below (T10.setTop (mkF m 204 #[.val (.int p0), .val (.long q1), .second, .val (.int p2), .val (.long q3), .second, .val (.int p4), .val (.ref ra), .val (.ref rb), .val (.int how), .val (.long idB), .second, .val (.ref b1), .val (.ref b5), .val (.int (1 : Int32)), .val (.int (1 : Int32)), .val (.int (((p4.toUInt32 >>> ((8 : Int32) &&& 31).toUInt32).toInt32) &&& (3 : Int32)))] [])) _
  refine XS.iload X10.here hx rfl (hb hby at_204) rfl ?_
  show Steps p.tables e below (T10.setTop (mkF m 206 #[.val (.int p0), .val (.long q1), .second, .val (.int p2), .val (.long q3), .second, .val (.int p4), .val (.ref ra), .val (.ref rb), .val (.int how), .val (.long idB), .second, .val (.ref b1), .val (.ref b5), .val (.int (1 : Int32)), .val (.int (1 : Int32)), .val (.int (((p4.toUInt32 >>> ((8 : Int32) &&& 31).toUInt32).toInt32) &&& (3 : Int32)))] [(.int (((p4.toUInt32 >>> ((8 : Int32) &&& 31).toUInt32).toInt32) &&& (3 : Int32)))])) _
  refine XS.iconst X10.here hx rfl (hb hby at_206) ?_
  show Steps p.tables e below (T10.setTop (mkF m 207 #[.val (.int p0), .val (.long q1), .second, .val (.int p2), .val (.long q3), .second, .val (.int p4), .val (.ref ra), .val (.ref rb), .val (.int how), .val (.long idB), .second, .val (.ref b1), .val (.ref b5), .val (.int (1 : Int32)), .val (.int (1 : Int32)), .val (.int (((p4.toUInt32 >>> ((8 : Int32) &&& 31).toUInt32).toInt32) &&& (3 : Int32)))] [(.int (3 : Int32)), (.int (((p4.toUInt32 >>> ((8 : Int32) &&& 31).toUInt32).toInt32) &&& (3 : Int32)))])) _
  refine XS.icmpNo X10.here hx rfl (hb hby at_207) rfl (teq hc207).2 ?_
  show Steps p.tables e below (T10.setTop (mkF m 210 #[.val (.int p0), .val (.long q1), .second, .val (.int p2), .val (.long q3), .second, .val (.int p4), .val (.ref ra), .val (.ref rb), .val (.int how), .val (.long idB), .second, .val (.ref b1), .val (.ref b5), .val (.int (1 : Int32)), .val (.int (1 : Int32)), .val (.int (((p4.toUInt32 >>> ((8 : Int32) &&& 31).toUInt32).toInt32) &&& (3 : Int32)))] [])) _
  refine XS.iload X10.here hx rfl (hb hby at_210) rfl ?_
  show Steps p.tables e below (T10.setTop (mkF m 212 #[.val (.int p0), .val (.long q1), .second, .val (.int p2), .val (.long q3), .second, .val (.int p4), .val (.ref ra), .val (.ref rb), .val (.int how), .val (.long idB), .second, .val (.ref b1), .val (.ref b5), .val (.int (1 : Int32)), .val (.int (1 : Int32)), .val (.int (((p4.toUInt32 >>> ((8 : Int32) &&& 31).toUInt32).toInt32) &&& (3 : Int32)))] [(.int (1 : Int32))])) _
  refine XS.ifNo X10.here hx rfl (hb hby at_212) rfl ((if0 _ _).trans (feq (by decide)).1) ?_
  show Steps p.tables e below (T10.setTop (mkF m 215 #[.val (.int p0), .val (.long q1), .second, .val (.int p2), .val (.long q3), .second, .val (.int p4), .val (.ref ra), .val (.ref rb), .val (.int how), .val (.long idB), .second, .val (.ref b1), .val (.ref b5), .val (.int (1 : Int32)), .val (.int (1 : Int32)), .val (.int (((p4.toUInt32 >>> ((8 : Int32) &&& 31).toUInt32).toInt32) &&& (3 : Int32)))] [])) _
  refine XS.aload X10.here hx rfl (hb hby at_215) rfl rfl ?_
  show Steps p.tables e below (T10.setTop (mkF m 217 #[.val (.int p0), .val (.long q1), .second, .val (.int p2), .val (.long q3), .second, .val (.int p4), .val (.ref ra), .val (.ref rb), .val (.int how), .val (.long idB), .second, .val (.ref b1), .val (.ref b5), .val (.int (1 : Int32)), .val (.int (1 : Int32)), .val (.int (((p4.toUInt32 >>> ((8 : Int32) &&& 31).toUInt32).toInt32) &&& (3 : Int32)))] [(.ref b1)])) _
  refine XS.aload X10.here hx rfl (hb hby at_217) rfl rfl ?_
  show Steps p.tables e below (T10.setTop (mkF m 219 #[.val (.int p0), .val (.long q1), .second, .val (.int p2), .val (.long q3), .second, .val (.int p4), .val (.ref ra), .val (.ref rb), .val (.int how), .val (.long idB), .second, .val (.ref b1), .val (.ref b5), .val (.int (1 : Int32)), .val (.int (1 : Int32)), .val (.int (((p4.toUInt32 >>> ((8 : Int32) &&& 31).toUInt32).toInt32) &&& (3 : Int32)))] [(.ref b1), (.ref b1)])) _
  refine st11.trans ?_
  show Steps p.tables e below (T11.setTop (mkF m 222 #[.val (.int p0), .val (.long q1), .second, .val (.int p2), .val (.long q3), .second, .val (.int p4), .val (.ref ra), .val (.ref rb), .val (.int how), .val (.long idB), .second, .val (.ref b1), .val (.ref b5), .val (.int (1 : Int32)), .val (.int (1 : Int32)), .val (.int (((p4.toUInt32 >>> ((8 : Int32) &&& 31).toUInt32).toInt32) &&& (3 : Int32)))] [(.int (1 : Int32))])) _
  refine XS.ifNo X11.here hx rfl (hb hby at_222) rfl ((if0 _ _).trans (feq (by decide)).1) ?_
  show Steps p.tables e below (T11.setTop (mkF m 225 #[.val (.int p0), .val (.long q1), .second, .val (.int p2), .val (.long q3), .second, .val (.int p4), .val (.ref ra), .val (.ref rb), .val (.int how), .val (.long idB), .second, .val (.ref b1), .val (.ref b5), .val (.int (1 : Int32)), .val (.int (1 : Int32)), .val (.int (((p4.toUInt32 >>> ((8 : Int32) &&& 31).toUInt32).toInt32) &&& (3 : Int32)))] [])) _
  refine XS.iconst X11.here hx rfl (hb hby at_225) ?_
  show Steps p.tables e below (T11.setTop (mkF m 226 #[.val (.int p0), .val (.long q1), .second, .val (.int p2), .val (.long q3), .second, .val (.int p4), .val (.ref ra), .val (.ref rb), .val (.int how), .val (.long idB), .second, .val (.ref b1), .val (.ref b5), .val (.int (1 : Int32)), .val (.int (1 : Int32)), .val (.int (((p4.toUInt32 >>> ((8 : Int32) &&& 31).toUInt32).toInt32) &&& (3 : Int32)))] [(.int (1 : Int32))])) _
  refine XS.goto X11.here hx rfl (pc0 := 226) (pc' := 230) rfl (hb hby at_226) (by decide) (by decide) ?_
  show Steps p.tables e below (T11.setTop (mkF m 230 #[.val (.int p0), .val (.long q1), .second, .val (.int p2), .val (.long q3), .second, .val (.int p4), .val (.ref ra), .val (.ref rb), .val (.int how), .val (.long idB), .second, .val (.ref b1), .val (.ref b5), .val (.int (1 : Int32)), .val (.int (1 : Int32)), .val (.int (((p4.toUInt32 >>> ((8 : Int32) &&& 31).toUInt32).toInt32) &&& (3 : Int32)))] [(.int (1 : Int32))])) _
  refine XS.istore X11.here hx rfl (hb hby at_230) rfl (l' := #[.val (.int p0), .val (.long q1), .second, .val (.int p2), .val (.long q3), .second, .val (.int p4), .val (.ref ra), .val (.ref rb), .val (.int how), .val (.long idB), .second, .val (.ref b1), .val (.ref b5), .val (.int (1 : Int32)), .val (.int (1 : Int32)), .val (.int (((p4.toUInt32 >>> ((8 : Int32) &&& 31).toUInt32).toInt32) &&& (3 : Int32)))]) rfl ?_
  show Steps p.tables e below (T11.setTop (mkF m 232 #[.val (.int p0), .val (.long q1), .second, .val (.int p2), .val (.long q3), .second, .val (.int p4), .val (.ref ra), .val (.ref rb), .val (.int how), .val (.long idB), .second, .val (.ref b1), .val (.ref b5), .val (.int (1 : Int32)), .val (.int (1 : Int32)), .val (.int (((p4.toUInt32 >>> ((8 : Int32) &&& 31).toUInt32).toInt32) &&& (3 : Int32)))] [])) _
  refine XS.iload X11.here hx rfl (hb hby at_232) rfl ?_
  show Steps p.tables e below (T11.setTop (mkF m 234 #[.val (.int p0), .val (.long q1), .second, .val (.int p2), .val (.long q3), .second, .val (.int p4), .val (.ref ra), .val (.ref rb), .val (.int how), .val (.long idB), .second, .val (.ref b1), .val (.ref b5), .val (.int (1 : Int32)), .val (.int (1 : Int32)), .val (.int (((p4.toUInt32 >>> ((8 : Int32) &&& 31).toUInt32).toInt32) &&& (3 : Int32)))] [(.int (1 : Int32))])) _
  exact retN X11 hx (t := .boolean) hret (by simp) (hb hby at_234) hr
theorem pd__I_Lcom_example_lessor_lessor_namespace_FileType_ : parseMethodDescriptor "(I)Lcom/example/lessor/lessor/namespace/FileType;" = some ⟨[.int], some (.object "com/example/lessor/lessor/namespace/FileType")⟩ := by decide +kernel
theorem ef_code (m : MethodId) (p0 : Int32) (q1 : Int64) (p2 : Int32) (q3 : Int64) (p4 : Int32) : entryFrame m #[(.int p0), (.long q1), (.int p2), (.long q3), (.int p4)] maxLocals = mkF m 0 #[.val (.int p0), .val (.long q1), .second, .val (.int p2), .val (.long q3), .second, .val (.int p4), .unset, .unset, .unset, .unset, .unset, .unset, .unset, .unset, .unset, .unset] [] := by first | (simp [entryFrame, mkF, argsToLocals, Value.category, maxLocals]; done) | rfl
set_option maxRecDepth 65536 in
set_option maxHeartbeats 40000000 in
theorem rm0_f (l : Launch) (Z : State) (a0 : Array Value) (hw : ∀ d ∈ tables_1, d.before a0 Z = true) (ws : List Jvm.Cond) (p0 : Int32) (q1 : Int64) (p2 : Int32) (q3 : Int64) (p4 : Int32) (ra : Addr) (rb : Addr) (ca : Addr) (cl : Cell) (h0 : Heap) (n0 : Nat) (Z0 : n0 ≤ h0.size) (hTra : PTy Z h0 p0 ra) (hTrb : PTy Z h0 p2 rb) (hc20 : (p4 &&& (3 : Int32)) = (0 : Int32)) (E_ra : Exa Z h0 ra "com/example/lessor/lessor/namespace/FileType") (E_rb : Exa Z h0 rb "com/example/lessor/lessor/namespace/FileType") (hC : Cache Z h0 ca cl) :
    MetFree l x (head1 (Jvm.Cond.code x code maxLocals ret :: ws) room_1) (fun a U => a = #[(.int p0), (.long q1), (.int p2), (.long q3), (.int p4)] ∧ Z.Warmed39 U.vm ∧ U.heap = h0) (fun _ _ _ _ _ => True) (fun _ U o U' => ∃ v L, o = .returned v ∧ (v = some (.int (1 : Int32)) ∧ Fr n0 L) ∧ FrameEnd U o U' L room_1.cells room_1.slots) := by
  refine MetFree.of_bodySF (plainFor_of_name pn_com_example_lessor_lessor_namespace_BindingEqualsPinLaw) hisR ?_
  intro p e s m args below meth c s₁ Bd hml0 hP hK
  obtain ⟨rfl, hZ, hh⟩ := hP
  have hx := Bd.exec
  have hby := Bd.bytes
  have hml : c.maxLocals = 17 := hml0
  have hown : s.vm.findClass "com/example/lessor/lessor/namespace/BindingEqualsPinLaw" = some m.cls := findClass_of_methodNamed Bd.named
  have X0 : Stand p l e room_1 s m #[(.int p0), (.long q1), (.int p2), (.long q3), (.int p4)] below meth c s₁ [] 0 0 := Stand.of_body Bd
  have e0 : s₁.heap = h0 := by rw [← hh, Bd.state]; rfl
  have N0 := Fr.nil n0
  have pre0 : ∀ t, Steps p.tables e below (s₁.setTop (mkF m 0 #[.val (.int p0), .val (.long q1), .second, .val (.int p2), .val (.long q3), .second, .val (.int p4), .unset, .unset, .unset, .unset, .unset, .unset, .unset, .unset, .unset, .unset] [])) t → Steps p.tables e below (s₁.setTop (entryFrame m #[(.int p0), (.long q1), (.int p2), (.long q3), (.int p4)] maxLocals)) t := fun t k => castTop (ef_code m p0 q1 p2 q3 p4) k
  obtain ⟨_, _, ⟨T1, L1, k1, n1⟩, -, X1, ⟨Lc1, hQ1, l1, y1, z1⟩, st1⟩ := Jvm.LawKit.callS X0 hx (y := (⟨"com/example/lessor/lessor/namespace/BindingEqualsPinLaw", "typeOf", "(I)Lcom/example/lessor/lessor/namespace/FileType;"⟩ : MethodName)) hown (mvT hZ (hw _ (List.mem_of_getElem? (i := 0) rfl))) (mvT hZ (hw _ (List.mem_of_getElem? (i := 1) rfl))) (mvT hZ (hw _ (List.mem_of_getElem? (i := 2) rfl))) (mvT hZ (hw _ (List.mem_of_getElem? (i := 3) rfl))) (by decide) (backOf (W := 0) (own_ty l Z a0 hw [] p0 ra h0 n0 Z0 hTra) hZ (hw _ (List.mem_of_getElem? (i := 3) rfl)) (hw _ (List.mem_of_getElem? (i := 2) rfl)) (by decide) (by decide)) (g := (mkF m 1 #[.val (.int p0), .val (.long q1), .second, .val (.int p2), .val (.long q3), .second, .val (.int p4), .unset, .unset, .unset, .unset, .unset, .unset, .unset, .unset, .unset, .unset] [(.int p0)])) rfl (by rw [hml]; rfl) (argsL := [(.int p0)]) (rest := []) (lenOf pd__I_Lcom_example_lessor_lessor_namespace_FileType_ rfl) rfl (by show 2 * 0 + _ ≤ _; exact Nat.le_of_eq rfl) (hb hby at_1) (fun _ _ => ⟨rfl, e0, (by decide : 0 + 0 ≤ _), (by decide : 0 + 0 ≤ _)⟩)
  dsimp only [Pt.U, Pt.locs, Pt.cells, Pt.slots] at X1 l1 y1 z1 st1 hQ1
  subst l1 y1 z1
  obtain ⟨rfl, N1q, e1⟩ := hQ1
  have N1 := Fr.app N0 N1q
  obtain ⟨_, _, ⟨T2, L2, k2, n2⟩, -, X2, ⟨Lc2, hQ2, l2, y2, z2⟩, st2⟩ := Jvm.LawKit.callS X1 hx (y := (⟨"com/example/lessor/lessor/namespace/BindingEqualsPinLaw", "typeOf", "(I)Lcom/example/lessor/lessor/namespace/FileType;"⟩ : MethodName)) hown (mvT hZ (hw _ (List.mem_of_getElem? (i := 0) rfl))) (mvT hZ (hw _ (List.mem_of_getElem? (i := 1) rfl))) (mvT hZ (hw _ (List.mem_of_getElem? (i := 2) rfl))) (mvT hZ (hw _ (List.mem_of_getElem? (i := 3) rfl))) (by decide) (backOf (W := 0) (own_ty l Z a0 hw [] p2 rb h0 n0 Z0 hTrb) hZ (hw _ (List.mem_of_getElem? (i := 3) rfl)) (hw _ (List.mem_of_getElem? (i := 2) rfl)) (by decide) (by decide)) (g := (mkF m 7 #[.val (.int p0), .val (.long q1), .second, .val (.int p2), .val (.long q3), .second, .val (.int p4), .val (.ref ra), .unset, .unset, .unset, .unset, .unset, .unset, .unset, .unset, .unset] [(.int p2)])) rfl (by rw [hml]; rfl) (argsL := [(.int p2)]) (rest := []) (lenOf pd__I_Lcom_example_lessor_lessor_namespace_FileType_ rfl) rfl (by show 2 * 0 + _ ≤ _; exact Nat.le_of_eq rfl) (hb hby at_7) (fun _ _ => ⟨rfl, e1, (by decide : 0 + 0 ≤ _), (by decide : 0 + 0 ≤ _)⟩)
  dsimp only [Pt.U, Pt.locs, Pt.cells, Pt.slots] at X2 l2 y2 z2 st2 hQ2
  subst l2 y2 z2
  obtain ⟨rfl, N2q, e2⟩ := hQ2
  have N2 := Fr.app N1 N2q
  obtain ⟨s₂, o, stt, r1, r2, r3⟩ : ∃ s₂ o, Steps p.tables e below (T2.setTop (mkF m 55 #[.val (.int p0), .val (.long q1), .second, .val (.int p2), .val (.long q3), .second, .val (.int p4), .val (.ref ra), .val (.ref rb), .val (.int (p4 &&& (3 : Int32))), .val (.long q1), .second, .unset, .unset, .unset, .unset, .unset] [])) s₂ ∧ s₂.status = .running ∧ Ended s₂ below o ∧ (∃ v L, o = .returned v ∧ (v = some (.int (1 : Int32)) ∧ Fr n0 L) ∧ FrameEnd s o s₂ L room_1.cells room_1.slots) := by
    by_cases ha : ra = rb
    · by_cases hd : q1 = q1
      · rcases own_m ((p4.toUInt32 >>> ((8 : Int32) &&& 31).toUInt32).toInt32) with hm | hm | hm | hm
        · exact tail_tfttt l Z a0 hw p0 q1 p2 q3 p4 ra rb (p4 &&& (3 : Int32)) q1 h0 n0 Z0 E_ra E_rb ha hd (by rw [hm] <;> decide) (by rw [hm] <;> decide) (by rw [hm] <;> decide) X2 N2 hx hZ hby hml hown Bd.returns Bd.notSynchronized e2
        · exact tail_tff l Z a0 hw p0 q1 p2 q3 p4 ra rb (p4 &&& (3 : Int32)) q1 h0 n0 Z0 E_ra E_rb ha hd (by rw [hm] <;> decide) X2 N2 hx hZ hby hml hown Bd.returns Bd.notSynchronized e2
        · exact tail_tftf l Z a0 hw p0 q1 p2 q3 p4 ra rb (p4 &&& (3 : Int32)) q1 ca cl h0 n0 Z0 E_ra E_rb ha hd (by rw [hm] <;> decide) (by rw [hm] <;> decide) hC X2 N2 hx hZ hby hml hown Bd.returns Bd.notSynchronized e2
        · exact tail_tfttf l Z a0 hw p0 q1 p2 q3 p4 ra rb (p4 &&& (3 : Int32)) q1 h0 n0 Z0 E_ra E_rb ha hd (by rw [hm] <;> decide) (by rw [hm] <;> decide) (by rw [hm] <;> decide) X2 N2 hx hZ hby hml hown Bd.returns Bd.notSynchronized e2
      · rcases own_m ((p4.toUInt32 >>> ((8 : Int32) &&& 31).toUInt32).toInt32) with hm | hm | hm | hm
        · exact tail_ttttt l Z a0 hw p0 q1 p2 q3 p4 ra rb (p4 &&& (3 : Int32)) q1 h0 n0 Z0 E_ra E_rb ha hd (by rw [hm] <;> decide) (by rw [hm] <;> decide) (by rw [hm] <;> decide) X2 N2 hx hZ hby hml hown Bd.returns Bd.notSynchronized e2
        · exact tail_ttf l Z a0 hw p0 q1 p2 q3 p4 ra rb (p4 &&& (3 : Int32)) q1 h0 n0 Z0 E_ra E_rb ha hd (by rw [hm] <;> decide) X2 N2 hx hZ hby hml hown Bd.returns Bd.notSynchronized e2
        · exact tail_tttf l Z a0 hw p0 q1 p2 q3 p4 ra rb (p4 &&& (3 : Int32)) q1 ca cl h0 n0 Z0 E_ra E_rb ha hd (by rw [hm] <;> decide) (by rw [hm] <;> decide) hC X2 N2 hx hZ hby hml hown Bd.returns Bd.notSynchronized e2
        · exact tail_ttttf l Z a0 hw p0 q1 p2 q3 p4 ra rb (p4 &&& (3 : Int32)) q1 h0 n0 Z0 E_ra E_rb ha hd (by rw [hm] <;> decide) (by rw [hm] <;> decide) (by rw [hm] <;> decide) X2 N2 hx hZ hby hml hown Bd.returns Bd.notSynchronized e2
    · rcases own_m ((p4.toUInt32 >>> ((8 : Int32) &&& 31).toUInt32).toInt32) with hm | hm | hm | hm
      · exact tail_fttt l Z a0 hw p0 q1 p2 q3 p4 ra rb (p4 &&& (3 : Int32)) q1 h0 n0 Z0 E_ra E_rb ha (by rw [hm] <;> decide) (by rw [hm] <;> decide) (by rw [hm] <;> decide) X2 N2 hx hZ hby hml hown Bd.returns Bd.notSynchronized e2
      · exact tail_ff l Z a0 hw p0 q1 p2 q3 p4 ra rb (p4 &&& (3 : Int32)) q1 h0 n0 Z0 E_ra E_rb ha (by rw [hm] <;> decide) X2 N2 hx hZ hby hml hown Bd.returns Bd.notSynchronized e2
      · exact tail_ftf l Z a0 hw p0 q1 p2 q3 p4 ra rb (p4 &&& (3 : Int32)) q1 ca cl h0 n0 Z0 E_ra E_rb ha (by rw [hm] <;> decide) (by rw [hm] <;> decide) hC X2 N2 hx hZ hby hml hown Bd.returns Bd.notSynchronized e2
      · exact tail_fttf l Z a0 hw p0 q1 p2 q3 p4 ra rb (p4 &&& (3 : Int32)) q1 h0 n0 Z0 E_ra E_rb ha (by rw [hm] <;> decide) (by rw [hm] <;> decide) (by rw [hm] <;> decide) X2 N2 hx hZ hby hml hown Bd.returns Bd.notSynchronized e2
  refine ⟨s₂, o, pre0 _ ?_, r1, r2, r3⟩
  show Steps p.tables e below (s₁.setTop (mkF m 0 #[.val (.int p0), .val (.long q1), .second, .val (.int p2), .val (.long q3), .second, .val (.int p4), .unset, .unset, .unset, .unset, .unset, .unset, .unset, .unset, .unset, .unset] [])) _
  refine XS.iloadN X0.here hx rfl (hb hby at_0) rfl ?_
  show Steps p.tables e below (s₁.setTop (mkF m 1 #[.val (.int p0), .val (.long q1), .second, .val (.int p2), .val (.long q3), .second, .val (.int p4), .unset, .unset, .unset, .unset, .unset, .unset, .unset, .unset, .unset, .unset] [(.int p0)])) _
  refine st1 _ ?_
  show Steps p.tables e below (T1.setTop (mkF m 4 #[.val (.int p0), .val (.long q1), .second, .val (.int p2), .val (.long q3), .second, .val (.int p4), .unset, .unset, .unset, .unset, .unset, .unset, .unset, .unset, .unset, .unset] [(.ref ra)])) _
  refine XS.astore X1.here hx rfl (hb hby at_4) rfl rfl (l' := #[.val (.int p0), .val (.long q1), .second, .val (.int p2), .val (.long q3), .second, .val (.int p4), .val (.ref ra), .unset, .unset, .unset, .unset, .unset, .unset, .unset, .unset, .unset]) rfl ?_
  show Steps p.tables e below (T1.setTop (mkF m 6 #[.val (.int p0), .val (.long q1), .second, .val (.int p2), .val (.long q3), .second, .val (.int p4), .val (.ref ra), .unset, .unset, .unset, .unset, .unset, .unset, .unset, .unset, .unset] [])) _
  refine XS.iloadN X1.here hx rfl (hb hby at_6) rfl ?_
  show Steps p.tables e below (T1.setTop (mkF m 7 #[.val (.int p0), .val (.long q1), .second, .val (.int p2), .val (.long q3), .second, .val (.int p4), .val (.ref ra), .unset, .unset, .unset, .unset, .unset, .unset, .unset, .unset, .unset] [(.int p2)])) _
  refine st2 _ ?_
  show Steps p.tables e below (T2.setTop (mkF m 10 #[.val (.int p0), .val (.long q1), .second, .val (.int p2), .val (.long q3), .second, .val (.int p4), .val (.ref ra), .unset, .unset, .unset, .unset, .unset, .unset, .unset, .unset, .unset] [(.ref rb)])) _
  refine XS.astore X2.here hx rfl (hb hby at_10) rfl rfl (l' := #[.val (.int p0), .val (.long q1), .second, .val (.int p2), .val (.long q3), .second, .val (.int p4), .val (.ref ra), .val (.ref rb), .unset, .unset, .unset, .unset, .unset, .unset, .unset, .unset]) rfl ?_
  show Steps p.tables e below (T2.setTop (mkF m 12 #[.val (.int p0), .val (.long q1), .second, .val (.int p2), .val (.long q3), .second, .val (.int p4), .val (.ref ra), .val (.ref rb), .unset, .unset, .unset, .unset, .unset, .unset, .unset, .unset] [])) _
  refine XS.iload X2.here hx rfl (hb hby at_12) rfl ?_
  show Steps p.tables e below (T2.setTop (mkF m 14 #[.val (.int p0), .val (.long q1), .second, .val (.int p2), .val (.long q3), .second, .val (.int p4), .val (.ref ra), .val (.ref rb), .unset, .unset, .unset, .unset, .unset, .unset, .unset, .unset] [(.int p4)])) _
  refine XS.iconst X2.here hx rfl (hb hby at_14) ?_
  show Steps p.tables e below (T2.setTop (mkF m 15 #[.val (.int p0), .val (.long q1), .second, .val (.int p2), .val (.long q3), .second, .val (.int p4), .val (.ref ra), .val (.ref rb), .unset, .unset, .unset, .unset, .unset, .unset, .unset, .unset] [(.int (3 : Int32)), (.int p4)])) _
  refine XS.iand X2.here hx rfl (hb hby at_15) rfl ?_
  show Steps p.tables e below (T2.setTop (mkF m 16 #[.val (.int p0), .val (.long q1), .second, .val (.int p2), .val (.long q3), .second, .val (.int p4), .val (.ref ra), .val (.ref rb), .unset, .unset, .unset, .unset, .unset, .unset, .unset, .unset] [(.int (p4 &&& (3 : Int32)))])) _
  refine XS.istore X2.here hx rfl (hb hby at_16) rfl (l' := #[.val (.int p0), .val (.long q1), .second, .val (.int p2), .val (.long q3), .second, .val (.int p4), .val (.ref ra), .val (.ref rb), .val (.int (p4 &&& (3 : Int32))), .unset, .unset, .unset, .unset, .unset, .unset, .unset]) rfl ?_
  show Steps p.tables e below (T2.setTop (mkF m 18 #[.val (.int p0), .val (.long q1), .second, .val (.int p2), .val (.long q3), .second, .val (.int p4), .val (.ref ra), .val (.ref rb), .val (.int (p4 &&& (3 : Int32))), .unset, .unset, .unset, .unset, .unset, .unset, .unset] [])) _
  refine XS.iload X2.here hx rfl (hb hby at_18) rfl ?_
  show Steps p.tables e below (T2.setTop (mkF m 20 #[.val (.int p0), .val (.long q1), .second, .val (.int p2), .val (.long q3), .second, .val (.int p4), .val (.ref ra), .val (.ref rb), .val (.int (p4 &&& (3 : Int32))), .unset, .unset, .unset, .unset, .unset, .unset, .unset] [(.int (p4 &&& (3 : Int32)))])) _
  refine XS.ifNo X2.here hx rfl (hb hby at_20) rfl ((if0 _ _).trans (teq hc20).2) ?_
  show Steps p.tables e below (T2.setTop (mkF m 23 #[.val (.int p0), .val (.long q1), .second, .val (.int p2), .val (.long q3), .second, .val (.int p4), .val (.ref ra), .val (.ref rb), .val (.int (p4 &&& (3 : Int32))), .unset, .unset, .unset, .unset, .unset, .unset, .unset] [])) _
  refine XS.lloadN X2.here hx rfl (hb hby at_23) rfl ?_
  show Steps p.tables e below (T2.setTop (mkF m 24 #[.val (.int p0), .val (.long q1), .second, .val (.int p2), .val (.long q3), .second, .val (.int p4), .val (.ref ra), .val (.ref rb), .val (.int (p4 &&& (3 : Int32))), .unset, .unset, .unset, .unset, .unset, .unset, .unset] [(.long q1)])) _
  refine XS.lstore X2.here hx rfl (hb hby at_24) rfl (l' := #[.val (.int p0), .val (.long q1), .second, .val (.int p2), .val (.long q3), .second, .val (.int p4), .val (.ref ra), .val (.ref rb), .val (.int (p4 &&& (3 : Int32))), .val (.long q1), .second, .unset, .unset, .unset, .unset, .unset]) rfl ?_
  show Steps p.tables e below (T2.setTop (mkF m 26 #[.val (.int p0), .val (.long q1), .second, .val (.int p2), .val (.long q3), .second, .val (.int p4), .val (.ref ra), .val (.ref rb), .val (.int (p4 &&& (3 : Int32))), .val (.long q1), .second, .unset, .unset, .unset, .unset, .unset] [])) _
  refine XS.goto X2.here hx rfl (pc0 := 26) (pc' := 55) rfl (hb hby at_26) (by decide) (by decide) ?_
  show Steps p.tables e below (T2.setTop (mkF m 55 #[.val (.int p0), .val (.long q1), .second, .val (.int p2), .val (.long q3), .second, .val (.int p4), .val (.ref ra), .val (.ref rb), .val (.int (p4 &&& (3 : Int32))), .val (.long q1), .second, .unset, .unset, .unset, .unset, .unset] [])) _
  exact stt
set_option maxRecDepth 65536 in
set_option maxHeartbeats 40000000 in
theorem rm0_tf (l : Launch) (Z : State) (a0 : Array Value) (hw : ∀ d ∈ tables_1, d.before a0 Z = true) (ws : List Jvm.Cond) (p0 : Int32) (q1 : Int64) (p2 : Int32) (q3 : Int64) (p4 : Int32) (ra : Addr) (rb : Addr) (ca : Addr) (cl : Cell) (h0 : Heap) (n0 : Nat) (Z0 : n0 ≤ h0.size) (hTra : PTy Z h0 p0 ra) (hTrb : PTy Z h0 p2 rb) (hc20 : ¬ ((p4 &&& (3 : Int32)) = (0 : Int32))) (hc32 : (p4 &&& (3 : Int32)) = (1 : Int32)) (E_ra : Exa Z h0 ra "com/example/lessor/lessor/namespace/FileType") (E_rb : Exa Z h0 rb "com/example/lessor/lessor/namespace/FileType") (hC : Cache Z h0 ca cl) :
    MetFree l x (head1 (Jvm.Cond.code x code maxLocals ret :: ws) room_1) (fun a U => a = #[(.int p0), (.long q1), (.int p2), (.long q3), (.int p4)] ∧ Z.Warmed39 U.vm ∧ U.heap = h0) (fun _ _ _ _ _ => True) (fun _ U o U' => ∃ v L, o = .returned v ∧ (v = some (.int (1 : Int32)) ∧ Fr n0 L) ∧ FrameEnd U o U' L room_1.cells room_1.slots) := by
  refine MetFree.of_bodySF (plainFor_of_name pn_com_example_lessor_lessor_namespace_BindingEqualsPinLaw) hisR ?_
  intro p e s m args below meth c s₁ Bd hml0 hP hK
  obtain ⟨rfl, hZ, hh⟩ := hP
  have hx := Bd.exec
  have hby := Bd.bytes
  have hml : c.maxLocals = 17 := hml0
  have hown : s.vm.findClass "com/example/lessor/lessor/namespace/BindingEqualsPinLaw" = some m.cls := findClass_of_methodNamed Bd.named
  have X0 : Stand p l e room_1 s m #[(.int p0), (.long q1), (.int p2), (.long q3), (.int p4)] below meth c s₁ [] 0 0 := Stand.of_body Bd
  have e0 : s₁.heap = h0 := by rw [← hh, Bd.state]; rfl
  have N0 := Fr.nil n0
  have pre0 : ∀ t, Steps p.tables e below (s₁.setTop (mkF m 0 #[.val (.int p0), .val (.long q1), .second, .val (.int p2), .val (.long q3), .second, .val (.int p4), .unset, .unset, .unset, .unset, .unset, .unset, .unset, .unset, .unset, .unset] [])) t → Steps p.tables e below (s₁.setTop (entryFrame m #[(.int p0), (.long q1), (.int p2), (.long q3), (.int p4)] maxLocals)) t := fun t k => castTop (ef_code m p0 q1 p2 q3 p4) k
  obtain ⟨_, _, ⟨T1, L1, k1, n1⟩, -, X1, ⟨Lc1, hQ1, l1, y1, z1⟩, st1⟩ := Jvm.LawKit.callS X0 hx (y := (⟨"com/example/lessor/lessor/namespace/BindingEqualsPinLaw", "typeOf", "(I)Lcom/example/lessor/lessor/namespace/FileType;"⟩ : MethodName)) hown (mvT hZ (hw _ (List.mem_of_getElem? (i := 0) rfl))) (mvT hZ (hw _ (List.mem_of_getElem? (i := 1) rfl))) (mvT hZ (hw _ (List.mem_of_getElem? (i := 2) rfl))) (mvT hZ (hw _ (List.mem_of_getElem? (i := 3) rfl))) (by decide) (backOf (W := 0) (own_ty l Z a0 hw [] p0 ra h0 n0 Z0 hTra) hZ (hw _ (List.mem_of_getElem? (i := 3) rfl)) (hw _ (List.mem_of_getElem? (i := 2) rfl)) (by decide) (by decide)) (g := (mkF m 1 #[.val (.int p0), .val (.long q1), .second, .val (.int p2), .val (.long q3), .second, .val (.int p4), .unset, .unset, .unset, .unset, .unset, .unset, .unset, .unset, .unset, .unset] [(.int p0)])) rfl (by rw [hml]; rfl) (argsL := [(.int p0)]) (rest := []) (lenOf pd__I_Lcom_example_lessor_lessor_namespace_FileType_ rfl) rfl (by show 2 * 0 + _ ≤ _; exact Nat.le_of_eq rfl) (hb hby at_1) (fun _ _ => ⟨rfl, e0, (by decide : 0 + 0 ≤ _), (by decide : 0 + 0 ≤ _)⟩)
  dsimp only [Pt.U, Pt.locs, Pt.cells, Pt.slots] at X1 l1 y1 z1 st1 hQ1
  subst l1 y1 z1
  obtain ⟨rfl, N1q, e1⟩ := hQ1
  have N1 := Fr.app N0 N1q
  obtain ⟨_, _, ⟨T2, L2, k2, n2⟩, -, X2, ⟨Lc2, hQ2, l2, y2, z2⟩, st2⟩ := Jvm.LawKit.callS X1 hx (y := (⟨"com/example/lessor/lessor/namespace/BindingEqualsPinLaw", "typeOf", "(I)Lcom/example/lessor/lessor/namespace/FileType;"⟩ : MethodName)) hown (mvT hZ (hw _ (List.mem_of_getElem? (i := 0) rfl))) (mvT hZ (hw _ (List.mem_of_getElem? (i := 1) rfl))) (mvT hZ (hw _ (List.mem_of_getElem? (i := 2) rfl))) (mvT hZ (hw _ (List.mem_of_getElem? (i := 3) rfl))) (by decide) (backOf (W := 0) (own_ty l Z a0 hw [] p2 rb h0 n0 Z0 hTrb) hZ (hw _ (List.mem_of_getElem? (i := 3) rfl)) (hw _ (List.mem_of_getElem? (i := 2) rfl)) (by decide) (by decide)) (g := (mkF m 7 #[.val (.int p0), .val (.long q1), .second, .val (.int p2), .val (.long q3), .second, .val (.int p4), .val (.ref ra), .unset, .unset, .unset, .unset, .unset, .unset, .unset, .unset, .unset] [(.int p2)])) rfl (by rw [hml]; rfl) (argsL := [(.int p2)]) (rest := []) (lenOf pd__I_Lcom_example_lessor_lessor_namespace_FileType_ rfl) rfl (by show 2 * 0 + _ ≤ _; exact Nat.le_of_eq rfl) (hb hby at_7) (fun _ _ => ⟨rfl, e1, (by decide : 0 + 0 ≤ _), (by decide : 0 + 0 ≤ _)⟩)
  dsimp only [Pt.U, Pt.locs, Pt.cells, Pt.slots] at X2 l2 y2 z2 st2 hQ2
  subst l2 y2 z2
  obtain ⟨rfl, N2q, e2⟩ := hQ2
  have N2 := Fr.app N1 N2q
  obtain ⟨s₂, o, stt, r1, r2, r3⟩ : ∃ s₂ o, Steps p.tables e below (T2.setTop (mkF m 55 #[.val (.int p0), .val (.long q1), .second, .val (.int p2), .val (.long q3), .second, .val (.int p4), .val (.ref ra), .val (.ref rb), .val (.int (p4 &&& (3 : Int32))), .val (.long (q1 ^^^ ((1 : Int64) <<< ((((p4.toUInt32 >>> ((2 : Int32) &&& 31).toUInt32).toInt32) &&& (63 : Int32)) &&& 0x3f).toInt64))), .second, .unset, .unset, .unset, .unset, .unset] [])) s₂ ∧ s₂.status = .running ∧ Ended s₂ below o ∧ (∃ v L, o = .returned v ∧ (v = some (.int (1 : Int32)) ∧ Fr n0 L) ∧ FrameEnd s o s₂ L room_1.cells room_1.slots) := by
    by_cases ha : ra = rb
    · by_cases hd : q1 = (q1 ^^^ ((1 : Int64) <<< ((((p4.toUInt32 >>> ((2 : Int32) &&& 31).toUInt32).toInt32) &&& (63 : Int32)) &&& 0x3f).toInt64))
      · rcases own_m ((p4.toUInt32 >>> ((8 : Int32) &&& 31).toUInt32).toInt32) with hm | hm | hm | hm
        · exact tail_tfttt l Z a0 hw p0 q1 p2 q3 p4 ra rb (p4 &&& (3 : Int32)) (q1 ^^^ ((1 : Int64) <<< ((((p4.toUInt32 >>> ((2 : Int32) &&& 31).toUInt32).toInt32) &&& (63 : Int32)) &&& 0x3f).toInt64)) h0 n0 Z0 E_ra E_rb ha hd (by rw [hm] <;> decide) (by rw [hm] <;> decide) (by rw [hm] <;> decide) X2 N2 hx hZ hby hml hown Bd.returns Bd.notSynchronized e2
        · exact tail_tff l Z a0 hw p0 q1 p2 q3 p4 ra rb (p4 &&& (3 : Int32)) (q1 ^^^ ((1 : Int64) <<< ((((p4.toUInt32 >>> ((2 : Int32) &&& 31).toUInt32).toInt32) &&& (63 : Int32)) &&& 0x3f).toInt64)) h0 n0 Z0 E_ra E_rb ha hd (by rw [hm] <;> decide) X2 N2 hx hZ hby hml hown Bd.returns Bd.notSynchronized e2
        · exact tail_tftf l Z a0 hw p0 q1 p2 q3 p4 ra rb (p4 &&& (3 : Int32)) (q1 ^^^ ((1 : Int64) <<< ((((p4.toUInt32 >>> ((2 : Int32) &&& 31).toUInt32).toInt32) &&& (63 : Int32)) &&& 0x3f).toInt64)) ca cl h0 n0 Z0 E_ra E_rb ha hd (by rw [hm] <;> decide) (by rw [hm] <;> decide) hC X2 N2 hx hZ hby hml hown Bd.returns Bd.notSynchronized e2
        · exact tail_tfttf l Z a0 hw p0 q1 p2 q3 p4 ra rb (p4 &&& (3 : Int32)) (q1 ^^^ ((1 : Int64) <<< ((((p4.toUInt32 >>> ((2 : Int32) &&& 31).toUInt32).toInt32) &&& (63 : Int32)) &&& 0x3f).toInt64)) h0 n0 Z0 E_ra E_rb ha hd (by rw [hm] <;> decide) (by rw [hm] <;> decide) (by rw [hm] <;> decide) X2 N2 hx hZ hby hml hown Bd.returns Bd.notSynchronized e2
      · rcases own_m ((p4.toUInt32 >>> ((8 : Int32) &&& 31).toUInt32).toInt32) with hm | hm | hm | hm
        · exact tail_ttttt l Z a0 hw p0 q1 p2 q3 p4 ra rb (p4 &&& (3 : Int32)) (q1 ^^^ ((1 : Int64) <<< ((((p4.toUInt32 >>> ((2 : Int32) &&& 31).toUInt32).toInt32) &&& (63 : Int32)) &&& 0x3f).toInt64)) h0 n0 Z0 E_ra E_rb ha hd (by rw [hm] <;> decide) (by rw [hm] <;> decide) (by rw [hm] <;> decide) X2 N2 hx hZ hby hml hown Bd.returns Bd.notSynchronized e2
        · exact tail_ttf l Z a0 hw p0 q1 p2 q3 p4 ra rb (p4 &&& (3 : Int32)) (q1 ^^^ ((1 : Int64) <<< ((((p4.toUInt32 >>> ((2 : Int32) &&& 31).toUInt32).toInt32) &&& (63 : Int32)) &&& 0x3f).toInt64)) h0 n0 Z0 E_ra E_rb ha hd (by rw [hm] <;> decide) X2 N2 hx hZ hby hml hown Bd.returns Bd.notSynchronized e2
        · exact tail_tttf l Z a0 hw p0 q1 p2 q3 p4 ra rb (p4 &&& (3 : Int32)) (q1 ^^^ ((1 : Int64) <<< ((((p4.toUInt32 >>> ((2 : Int32) &&& 31).toUInt32).toInt32) &&& (63 : Int32)) &&& 0x3f).toInt64)) ca cl h0 n0 Z0 E_ra E_rb ha hd (by rw [hm] <;> decide) (by rw [hm] <;> decide) hC X2 N2 hx hZ hby hml hown Bd.returns Bd.notSynchronized e2
        · exact tail_ttttf l Z a0 hw p0 q1 p2 q3 p4 ra rb (p4 &&& (3 : Int32)) (q1 ^^^ ((1 : Int64) <<< ((((p4.toUInt32 >>> ((2 : Int32) &&& 31).toUInt32).toInt32) &&& (63 : Int32)) &&& 0x3f).toInt64)) h0 n0 Z0 E_ra E_rb ha hd (by rw [hm] <;> decide) (by rw [hm] <;> decide) (by rw [hm] <;> decide) X2 N2 hx hZ hby hml hown Bd.returns Bd.notSynchronized e2
    · rcases own_m ((p4.toUInt32 >>> ((8 : Int32) &&& 31).toUInt32).toInt32) with hm | hm | hm | hm
      · exact tail_fttt l Z a0 hw p0 q1 p2 q3 p4 ra rb (p4 &&& (3 : Int32)) (q1 ^^^ ((1 : Int64) <<< ((((p4.toUInt32 >>> ((2 : Int32) &&& 31).toUInt32).toInt32) &&& (63 : Int32)) &&& 0x3f).toInt64)) h0 n0 Z0 E_ra E_rb ha (by rw [hm] <;> decide) (by rw [hm] <;> decide) (by rw [hm] <;> decide) X2 N2 hx hZ hby hml hown Bd.returns Bd.notSynchronized e2
      · exact tail_ff l Z a0 hw p0 q1 p2 q3 p4 ra rb (p4 &&& (3 : Int32)) (q1 ^^^ ((1 : Int64) <<< ((((p4.toUInt32 >>> ((2 : Int32) &&& 31).toUInt32).toInt32) &&& (63 : Int32)) &&& 0x3f).toInt64)) h0 n0 Z0 E_ra E_rb ha (by rw [hm] <;> decide) X2 N2 hx hZ hby hml hown Bd.returns Bd.notSynchronized e2
      · exact tail_ftf l Z a0 hw p0 q1 p2 q3 p4 ra rb (p4 &&& (3 : Int32)) (q1 ^^^ ((1 : Int64) <<< ((((p4.toUInt32 >>> ((2 : Int32) &&& 31).toUInt32).toInt32) &&& (63 : Int32)) &&& 0x3f).toInt64)) ca cl h0 n0 Z0 E_ra E_rb ha (by rw [hm] <;> decide) (by rw [hm] <;> decide) hC X2 N2 hx hZ hby hml hown Bd.returns Bd.notSynchronized e2
      · exact tail_fttf l Z a0 hw p0 q1 p2 q3 p4 ra rb (p4 &&& (3 : Int32)) (q1 ^^^ ((1 : Int64) <<< ((((p4.toUInt32 >>> ((2 : Int32) &&& 31).toUInt32).toInt32) &&& (63 : Int32)) &&& 0x3f).toInt64)) h0 n0 Z0 E_ra E_rb ha (by rw [hm] <;> decide) (by rw [hm] <;> decide) (by rw [hm] <;> decide) X2 N2 hx hZ hby hml hown Bd.returns Bd.notSynchronized e2
  refine ⟨s₂, o, pre0 _ ?_, r1, r2, r3⟩
  show Steps p.tables e below (s₁.setTop (mkF m 0 #[.val (.int p0), .val (.long q1), .second, .val (.int p2), .val (.long q3), .second, .val (.int p4), .unset, .unset, .unset, .unset, .unset, .unset, .unset, .unset, .unset, .unset] [])) _
  refine XS.iloadN X0.here hx rfl (hb hby at_0) rfl ?_
  show Steps p.tables e below (s₁.setTop (mkF m 1 #[.val (.int p0), .val (.long q1), .second, .val (.int p2), .val (.long q3), .second, .val (.int p4), .unset, .unset, .unset, .unset, .unset, .unset, .unset, .unset, .unset, .unset] [(.int p0)])) _
  refine st1 _ ?_
  show Steps p.tables e below (T1.setTop (mkF m 4 #[.val (.int p0), .val (.long q1), .second, .val (.int p2), .val (.long q3), .second, .val (.int p4), .unset, .unset, .unset, .unset, .unset, .unset, .unset, .unset, .unset, .unset] [(.ref ra)])) _
  refine XS.astore X1.here hx rfl (hb hby at_4) rfl rfl (l' := #[.val (.int p0), .val (.long q1), .second, .val (.int p2), .val (.long q3), .second, .val (.int p4), .val (.ref ra), .unset, .unset, .unset, .unset, .unset, .unset, .unset, .unset, .unset]) rfl ?_
  show Steps p.tables e below (T1.setTop (mkF m 6 #[.val (.int p0), .val (.long q1), .second, .val (.int p2), .val (.long q3), .second, .val (.int p4), .val (.ref ra), .unset, .unset, .unset, .unset, .unset, .unset, .unset, .unset, .unset] [])) _
  refine XS.iloadN X1.here hx rfl (hb hby at_6) rfl ?_
  show Steps p.tables e below (T1.setTop (mkF m 7 #[.val (.int p0), .val (.long q1), .second, .val (.int p2), .val (.long q3), .second, .val (.int p4), .val (.ref ra), .unset, .unset, .unset, .unset, .unset, .unset, .unset, .unset, .unset] [(.int p2)])) _
  refine st2 _ ?_
  show Steps p.tables e below (T2.setTop (mkF m 10 #[.val (.int p0), .val (.long q1), .second, .val (.int p2), .val (.long q3), .second, .val (.int p4), .val (.ref ra), .unset, .unset, .unset, .unset, .unset, .unset, .unset, .unset, .unset] [(.ref rb)])) _
  refine XS.astore X2.here hx rfl (hb hby at_10) rfl rfl (l' := #[.val (.int p0), .val (.long q1), .second, .val (.int p2), .val (.long q3), .second, .val (.int p4), .val (.ref ra), .val (.ref rb), .unset, .unset, .unset, .unset, .unset, .unset, .unset, .unset]) rfl ?_
  show Steps p.tables e below (T2.setTop (mkF m 12 #[.val (.int p0), .val (.long q1), .second, .val (.int p2), .val (.long q3), .second, .val (.int p4), .val (.ref ra), .val (.ref rb), .unset, .unset, .unset, .unset, .unset, .unset, .unset, .unset] [])) _
  refine XS.iload X2.here hx rfl (hb hby at_12) rfl ?_
  show Steps p.tables e below (T2.setTop (mkF m 14 #[.val (.int p0), .val (.long q1), .second, .val (.int p2), .val (.long q3), .second, .val (.int p4), .val (.ref ra), .val (.ref rb), .unset, .unset, .unset, .unset, .unset, .unset, .unset, .unset] [(.int p4)])) _
  refine XS.iconst X2.here hx rfl (hb hby at_14) ?_
  show Steps p.tables e below (T2.setTop (mkF m 15 #[.val (.int p0), .val (.long q1), .second, .val (.int p2), .val (.long q3), .second, .val (.int p4), .val (.ref ra), .val (.ref rb), .unset, .unset, .unset, .unset, .unset, .unset, .unset, .unset] [(.int (3 : Int32)), (.int p4)])) _
  refine XS.iand X2.here hx rfl (hb hby at_15) rfl ?_
  show Steps p.tables e below (T2.setTop (mkF m 16 #[.val (.int p0), .val (.long q1), .second, .val (.int p2), .val (.long q3), .second, .val (.int p4), .val (.ref ra), .val (.ref rb), .unset, .unset, .unset, .unset, .unset, .unset, .unset, .unset] [(.int (p4 &&& (3 : Int32)))])) _
  refine XS.istore X2.here hx rfl (hb hby at_16) rfl (l' := #[.val (.int p0), .val (.long q1), .second, .val (.int p2), .val (.long q3), .second, .val (.int p4), .val (.ref ra), .val (.ref rb), .val (.int (p4 &&& (3 : Int32))), .unset, .unset, .unset, .unset, .unset, .unset, .unset]) rfl ?_
  show Steps p.tables e below (T2.setTop (mkF m 18 #[.val (.int p0), .val (.long q1), .second, .val (.int p2), .val (.long q3), .second, .val (.int p4), .val (.ref ra), .val (.ref rb), .val (.int (p4 &&& (3 : Int32))), .unset, .unset, .unset, .unset, .unset, .unset, .unset] [])) _
  refine XS.iload X2.here hx rfl (hb hby at_18) rfl ?_
  show Steps p.tables e below (T2.setTop (mkF m 20 #[.val (.int p0), .val (.long q1), .second, .val (.int p2), .val (.long q3), .second, .val (.int p4), .val (.ref ra), .val (.ref rb), .val (.int (p4 &&& (3 : Int32))), .unset, .unset, .unset, .unset, .unset, .unset, .unset] [(.int (p4 &&& (3 : Int32)))])) _
  refine XS.ifYes X2.here hx rfl (pc0 := 20) (pc' := 29) rfl (hb hby at_20) rfl ((if0 _ _).trans (feq hc20).2) (by decide) (by decide) ?_
  show Steps p.tables e below (T2.setTop (mkF m 29 #[.val (.int p0), .val (.long q1), .second, .val (.int p2), .val (.long q3), .second, .val (.int p4), .val (.ref ra), .val (.ref rb), .val (.int (p4 &&& (3 : Int32))), .unset, .unset, .unset, .unset, .unset, .unset, .unset] [])) _
  refine XS.iload X2.here hx rfl (hb hby at_29) rfl ?_
  show Steps p.tables e below (T2.setTop (mkF m 31 #[.val (.int p0), .val (.long q1), .second, .val (.int p2), .val (.long q3), .second, .val (.int p4), .val (.ref ra), .val (.ref rb), .val (.int (p4 &&& (3 : Int32))), .unset, .unset, .unset, .unset, .unset, .unset, .unset] [(.int (p4 &&& (3 : Int32)))])) _
  refine XS.iconst X2.here hx rfl (hb hby at_31) ?_
  show Steps p.tables e below (T2.setTop (mkF m 32 #[.val (.int p0), .val (.long q1), .second, .val (.int p2), .val (.long q3), .second, .val (.int p4), .val (.ref ra), .val (.ref rb), .val (.int (p4 &&& (3 : Int32))), .unset, .unset, .unset, .unset, .unset, .unset, .unset] [(.int (1 : Int32)), (.int (p4 &&& (3 : Int32)))])) _
  refine XS.icmpNo X2.here hx rfl (hb hby at_32) rfl (teq hc32).2 ?_
  show Steps p.tables e below (T2.setTop (mkF m 35 #[.val (.int p0), .val (.long q1), .second, .val (.int p2), .val (.long q3), .second, .val (.int p4), .val (.ref ra), .val (.ref rb), .val (.int (p4 &&& (3 : Int32))), .unset, .unset, .unset, .unset, .unset, .unset, .unset] [])) _
  refine XS.lloadN X2.here hx rfl (hb hby at_35) rfl ?_
  show Steps p.tables e below (T2.setTop (mkF m 36 #[.val (.int p0), .val (.long q1), .second, .val (.int p2), .val (.long q3), .second, .val (.int p4), .val (.ref ra), .val (.ref rb), .val (.int (p4 &&& (3 : Int32))), .unset, .unset, .unset, .unset, .unset, .unset, .unset] [(.long q1)])) _
  refine XS.lconst X2.here hx rfl (hb hby at_36) ?_
  show Steps p.tables e below (T2.setTop (mkF m 37 #[.val (.int p0), .val (.long q1), .second, .val (.int p2), .val (.long q3), .second, .val (.int p4), .val (.ref ra), .val (.ref rb), .val (.int (p4 &&& (3 : Int32))), .unset, .unset, .unset, .unset, .unset, .unset, .unset] [(.long (1 : Int64)), (.long q1)])) _
  refine XS.iload X2.here hx rfl (hb hby at_37) rfl ?_
  show Steps p.tables e below (T2.setTop (mkF m 39 #[.val (.int p0), .val (.long q1), .second, .val (.int p2), .val (.long q3), .second, .val (.int p4), .val (.ref ra), .val (.ref rb), .val (.int (p4 &&& (3 : Int32))), .unset, .unset, .unset, .unset, .unset, .unset, .unset] [(.int p4), (.long (1 : Int64)), (.long q1)])) _
  refine XS.iconst X2.here hx rfl (hb hby at_39) ?_
  show Steps p.tables e below (T2.setTop (mkF m 40 #[.val (.int p0), .val (.long q1), .second, .val (.int p2), .val (.long q3), .second, .val (.int p4), .val (.ref ra), .val (.ref rb), .val (.int (p4 &&& (3 : Int32))), .unset, .unset, .unset, .unset, .unset, .unset, .unset] [(.int (2 : Int32)), (.int p4), (.long (1 : Int64)), (.long q1)])) _
  refine XS.iushr X2.here hx rfl (hb hby at_40) rfl ?_
  show Steps p.tables e below (T2.setTop (mkF m 41 #[.val (.int p0), .val (.long q1), .second, .val (.int p2), .val (.long q3), .second, .val (.int p4), .val (.ref ra), .val (.ref rb), .val (.int (p4 &&& (3 : Int32))), .unset, .unset, .unset, .unset, .unset, .unset, .unset] [(.int ((p4.toUInt32 >>> ((2 : Int32) &&& 31).toUInt32).toInt32)), (.long (1 : Int64)), (.long q1)])) _
  refine XS.bipush X2.here hx rfl (hb hby at_41) ?_
  show Steps p.tables e below (T2.setTop (mkF m 43 #[.val (.int p0), .val (.long q1), .second, .val (.int p2), .val (.long q3), .second, .val (.int p4), .val (.ref ra), .val (.ref rb), .val (.int (p4 &&& (3 : Int32))), .unset, .unset, .unset, .unset, .unset, .unset, .unset] [(.int (63 : Int32)), (.int ((p4.toUInt32 >>> ((2 : Int32) &&& 31).toUInt32).toInt32)), (.long (1 : Int64)), (.long q1)])) _
  refine XS.iand X2.here hx rfl (hb hby at_43) rfl ?_
  show Steps p.tables e below (T2.setTop (mkF m 44 #[.val (.int p0), .val (.long q1), .second, .val (.int p2), .val (.long q3), .second, .val (.int p4), .val (.ref ra), .val (.ref rb), .val (.int (p4 &&& (3 : Int32))), .unset, .unset, .unset, .unset, .unset, .unset, .unset] [(.int (((p4.toUInt32 >>> ((2 : Int32) &&& 31).toUInt32).toInt32) &&& (63 : Int32))), (.long (1 : Int64)), (.long q1)])) _
  refine XS.lshl X2.here hx rfl (hb hby at_44) rfl ?_
  show Steps p.tables e below (T2.setTop (mkF m 45 #[.val (.int p0), .val (.long q1), .second, .val (.int p2), .val (.long q3), .second, .val (.int p4), .val (.ref ra), .val (.ref rb), .val (.int (p4 &&& (3 : Int32))), .unset, .unset, .unset, .unset, .unset, .unset, .unset] [(.long ((1 : Int64) <<< ((((p4.toUInt32 >>> ((2 : Int32) &&& 31).toUInt32).toInt32) &&& (63 : Int32)) &&& 0x3f).toInt64)), (.long q1)])) _
  refine XS.lxor X2.here hx rfl (hb hby at_45) rfl ?_
  show Steps p.tables e below (T2.setTop (mkF m 46 #[.val (.int p0), .val (.long q1), .second, .val (.int p2), .val (.long q3), .second, .val (.int p4), .val (.ref ra), .val (.ref rb), .val (.int (p4 &&& (3 : Int32))), .unset, .unset, .unset, .unset, .unset, .unset, .unset] [(.long (q1 ^^^ ((1 : Int64) <<< ((((p4.toUInt32 >>> ((2 : Int32) &&& 31).toUInt32).toInt32) &&& (63 : Int32)) &&& 0x3f).toInt64)))])) _
  refine XS.lstore X2.here hx rfl (hb hby at_46) rfl (l' := #[.val (.int p0), .val (.long q1), .second, .val (.int p2), .val (.long q3), .second, .val (.int p4), .val (.ref ra), .val (.ref rb), .val (.int (p4 &&& (3 : Int32))), .val (.long (q1 ^^^ ((1 : Int64) <<< ((((p4.toUInt32 >>> ((2 : Int32) &&& 31).toUInt32).toInt32) &&& (63 : Int32)) &&& 0x3f).toInt64))), .second, .unset, .unset, .unset, .unset, .unset]) rfl ?_
  show Steps p.tables e below (T2.setTop (mkF m 48 #[.val (.int p0), .val (.long q1), .second, .val (.int p2), .val (.long q3), .second, .val (.int p4), .val (.ref ra), .val (.ref rb), .val (.int (p4 &&& (3 : Int32))), .val (.long (q1 ^^^ ((1 : Int64) <<< ((((p4.toUInt32 >>> ((2 : Int32) &&& 31).toUInt32).toInt32) &&& (63 : Int32)) &&& 0x3f).toInt64))), .second, .unset, .unset, .unset, .unset, .unset] [])) _
  refine XS.goto X2.here hx rfl (pc0 := 48) (pc' := 55) rfl (hb hby at_48) (by decide) (by decide) ?_
  show Steps p.tables e below (T2.setTop (mkF m 55 #[.val (.int p0), .val (.long q1), .second, .val (.int p2), .val (.long q3), .second, .val (.int p4), .val (.ref ra), .val (.ref rb), .val (.int (p4 &&& (3 : Int32))), .val (.long (q1 ^^^ ((1 : Int64) <<< ((((p4.toUInt32 >>> ((2 : Int32) &&& 31).toUInt32).toInt32) &&& (63 : Int32)) &&& 0x3f).toInt64))), .second, .unset, .unset, .unset, .unset, .unset] [])) _
  exact stt
set_option maxRecDepth 65536 in
set_option maxHeartbeats 40000000 in
theorem rm0_tt (l : Launch) (Z : State) (a0 : Array Value) (hw : ∀ d ∈ tables_1, d.before a0 Z = true) (ws : List Jvm.Cond) (p0 : Int32) (q1 : Int64) (p2 : Int32) (q3 : Int64) (p4 : Int32) (ra : Addr) (rb : Addr) (ca : Addr) (cl : Cell) (h0 : Heap) (n0 : Nat) (Z0 : n0 ≤ h0.size) (hTra : PTy Z h0 p0 ra) (hTrb : PTy Z h0 p2 rb) (hc20 : ¬ ((p4 &&& (3 : Int32)) = (0 : Int32))) (hc32 : ¬ ((p4 &&& (3 : Int32)) = (1 : Int32))) (E_ra : Exa Z h0 ra "com/example/lessor/lessor/namespace/FileType") (E_rb : Exa Z h0 rb "com/example/lessor/lessor/namespace/FileType") (hC : Cache Z h0 ca cl) :
    MetFree l x (head1 (Jvm.Cond.code x code maxLocals ret :: ws) room_1) (fun a U => a = #[(.int p0), (.long q1), (.int p2), (.long q3), (.int p4)] ∧ Z.Warmed39 U.vm ∧ U.heap = h0) (fun _ _ _ _ _ => True) (fun _ U o U' => ∃ v L, o = .returned v ∧ (v = some (.int (1 : Int32)) ∧ Fr n0 L) ∧ FrameEnd U o U' L room_1.cells room_1.slots) := by
  refine MetFree.of_bodySF (plainFor_of_name pn_com_example_lessor_lessor_namespace_BindingEqualsPinLaw) hisR ?_
  intro p e s m args below meth c s₁ Bd hml0 hP hK
  obtain ⟨rfl, hZ, hh⟩ := hP
  have hx := Bd.exec
  have hby := Bd.bytes
  have hml : c.maxLocals = 17 := hml0
  have hown : s.vm.findClass "com/example/lessor/lessor/namespace/BindingEqualsPinLaw" = some m.cls := findClass_of_methodNamed Bd.named
  have X0 : Stand p l e room_1 s m #[(.int p0), (.long q1), (.int p2), (.long q3), (.int p4)] below meth c s₁ [] 0 0 := Stand.of_body Bd
  have e0 : s₁.heap = h0 := by rw [← hh, Bd.state]; rfl
  have N0 := Fr.nil n0
  have pre0 : ∀ t, Steps p.tables e below (s₁.setTop (mkF m 0 #[.val (.int p0), .val (.long q1), .second, .val (.int p2), .val (.long q3), .second, .val (.int p4), .unset, .unset, .unset, .unset, .unset, .unset, .unset, .unset, .unset, .unset] [])) t → Steps p.tables e below (s₁.setTop (entryFrame m #[(.int p0), (.long q1), (.int p2), (.long q3), (.int p4)] maxLocals)) t := fun t k => castTop (ef_code m p0 q1 p2 q3 p4) k
  obtain ⟨_, _, ⟨T1, L1, k1, n1⟩, -, X1, ⟨Lc1, hQ1, l1, y1, z1⟩, st1⟩ := Jvm.LawKit.callS X0 hx (y := (⟨"com/example/lessor/lessor/namespace/BindingEqualsPinLaw", "typeOf", "(I)Lcom/example/lessor/lessor/namespace/FileType;"⟩ : MethodName)) hown (mvT hZ (hw _ (List.mem_of_getElem? (i := 0) rfl))) (mvT hZ (hw _ (List.mem_of_getElem? (i := 1) rfl))) (mvT hZ (hw _ (List.mem_of_getElem? (i := 2) rfl))) (mvT hZ (hw _ (List.mem_of_getElem? (i := 3) rfl))) (by decide) (backOf (W := 0) (own_ty l Z a0 hw [] p0 ra h0 n0 Z0 hTra) hZ (hw _ (List.mem_of_getElem? (i := 3) rfl)) (hw _ (List.mem_of_getElem? (i := 2) rfl)) (by decide) (by decide)) (g := (mkF m 1 #[.val (.int p0), .val (.long q1), .second, .val (.int p2), .val (.long q3), .second, .val (.int p4), .unset, .unset, .unset, .unset, .unset, .unset, .unset, .unset, .unset, .unset] [(.int p0)])) rfl (by rw [hml]; rfl) (argsL := [(.int p0)]) (rest := []) (lenOf pd__I_Lcom_example_lessor_lessor_namespace_FileType_ rfl) rfl (by show 2 * 0 + _ ≤ _; exact Nat.le_of_eq rfl) (hb hby at_1) (fun _ _ => ⟨rfl, e0, (by decide : 0 + 0 ≤ _), (by decide : 0 + 0 ≤ _)⟩)
  dsimp only [Pt.U, Pt.locs, Pt.cells, Pt.slots] at X1 l1 y1 z1 st1 hQ1
  subst l1 y1 z1
  obtain ⟨rfl, N1q, e1⟩ := hQ1
  have N1 := Fr.app N0 N1q
  obtain ⟨_, _, ⟨T2, L2, k2, n2⟩, -, X2, ⟨Lc2, hQ2, l2, y2, z2⟩, st2⟩ := Jvm.LawKit.callS X1 hx (y := (⟨"com/example/lessor/lessor/namespace/BindingEqualsPinLaw", "typeOf", "(I)Lcom/example/lessor/lessor/namespace/FileType;"⟩ : MethodName)) hown (mvT hZ (hw _ (List.mem_of_getElem? (i := 0) rfl))) (mvT hZ (hw _ (List.mem_of_getElem? (i := 1) rfl))) (mvT hZ (hw _ (List.mem_of_getElem? (i := 2) rfl))) (mvT hZ (hw _ (List.mem_of_getElem? (i := 3) rfl))) (by decide) (backOf (W := 0) (own_ty l Z a0 hw [] p2 rb h0 n0 Z0 hTrb) hZ (hw _ (List.mem_of_getElem? (i := 3) rfl)) (hw _ (List.mem_of_getElem? (i := 2) rfl)) (by decide) (by decide)) (g := (mkF m 7 #[.val (.int p0), .val (.long q1), .second, .val (.int p2), .val (.long q3), .second, .val (.int p4), .val (.ref ra), .unset, .unset, .unset, .unset, .unset, .unset, .unset, .unset, .unset] [(.int p2)])) rfl (by rw [hml]; rfl) (argsL := [(.int p2)]) (rest := []) (lenOf pd__I_Lcom_example_lessor_lessor_namespace_FileType_ rfl) rfl (by show 2 * 0 + _ ≤ _; exact Nat.le_of_eq rfl) (hb hby at_7) (fun _ _ => ⟨rfl, e1, (by decide : 0 + 0 ≤ _), (by decide : 0 + 0 ≤ _)⟩)
  dsimp only [Pt.U, Pt.locs, Pt.cells, Pt.slots] at X2 l2 y2 z2 st2 hQ2
  subst l2 y2 z2
  obtain ⟨rfl, N2q, e2⟩ := hQ2
  have N2 := Fr.app N1 N2q
  obtain ⟨s₂, o, stt, r1, r2, r3⟩ : ∃ s₂ o, Steps p.tables e below (T2.setTop (mkF m 55 #[.val (.int p0), .val (.long q1), .second, .val (.int p2), .val (.long q3), .second, .val (.int p4), .val (.ref ra), .val (.ref rb), .val (.int (p4 &&& (3 : Int32))), .val (.long q3), .second, .unset, .unset, .unset, .unset, .unset] [])) s₂ ∧ s₂.status = .running ∧ Ended s₂ below o ∧ (∃ v L, o = .returned v ∧ (v = some (.int (1 : Int32)) ∧ Fr n0 L) ∧ FrameEnd s o s₂ L room_1.cells room_1.slots) := by
    by_cases ha : ra = rb
    · by_cases hd : q1 = q3
      · rcases own_m ((p4.toUInt32 >>> ((8 : Int32) &&& 31).toUInt32).toInt32) with hm | hm | hm | hm
        · exact tail_tfttt l Z a0 hw p0 q1 p2 q3 p4 ra rb (p4 &&& (3 : Int32)) q3 h0 n0 Z0 E_ra E_rb ha hd (by rw [hm] <;> decide) (by rw [hm] <;> decide) (by rw [hm] <;> decide) X2 N2 hx hZ hby hml hown Bd.returns Bd.notSynchronized e2
        · exact tail_tff l Z a0 hw p0 q1 p2 q3 p4 ra rb (p4 &&& (3 : Int32)) q3 h0 n0 Z0 E_ra E_rb ha hd (by rw [hm] <;> decide) X2 N2 hx hZ hby hml hown Bd.returns Bd.notSynchronized e2
        · exact tail_tftf l Z a0 hw p0 q1 p2 q3 p4 ra rb (p4 &&& (3 : Int32)) q3 ca cl h0 n0 Z0 E_ra E_rb ha hd (by rw [hm] <;> decide) (by rw [hm] <;> decide) hC X2 N2 hx hZ hby hml hown Bd.returns Bd.notSynchronized e2
        · exact tail_tfttf l Z a0 hw p0 q1 p2 q3 p4 ra rb (p4 &&& (3 : Int32)) q3 h0 n0 Z0 E_ra E_rb ha hd (by rw [hm] <;> decide) (by rw [hm] <;> decide) (by rw [hm] <;> decide) X2 N2 hx hZ hby hml hown Bd.returns Bd.notSynchronized e2
      · rcases own_m ((p4.toUInt32 >>> ((8 : Int32) &&& 31).toUInt32).toInt32) with hm | hm | hm | hm
        · exact tail_ttttt l Z a0 hw p0 q1 p2 q3 p4 ra rb (p4 &&& (3 : Int32)) q3 h0 n0 Z0 E_ra E_rb ha hd (by rw [hm] <;> decide) (by rw [hm] <;> decide) (by rw [hm] <;> decide) X2 N2 hx hZ hby hml hown Bd.returns Bd.notSynchronized e2
        · exact tail_ttf l Z a0 hw p0 q1 p2 q3 p4 ra rb (p4 &&& (3 : Int32)) q3 h0 n0 Z0 E_ra E_rb ha hd (by rw [hm] <;> decide) X2 N2 hx hZ hby hml hown Bd.returns Bd.notSynchronized e2
        · exact tail_tttf l Z a0 hw p0 q1 p2 q3 p4 ra rb (p4 &&& (3 : Int32)) q3 ca cl h0 n0 Z0 E_ra E_rb ha hd (by rw [hm] <;> decide) (by rw [hm] <;> decide) hC X2 N2 hx hZ hby hml hown Bd.returns Bd.notSynchronized e2
        · exact tail_ttttf l Z a0 hw p0 q1 p2 q3 p4 ra rb (p4 &&& (3 : Int32)) q3 h0 n0 Z0 E_ra E_rb ha hd (by rw [hm] <;> decide) (by rw [hm] <;> decide) (by rw [hm] <;> decide) X2 N2 hx hZ hby hml hown Bd.returns Bd.notSynchronized e2
    · rcases own_m ((p4.toUInt32 >>> ((8 : Int32) &&& 31).toUInt32).toInt32) with hm | hm | hm | hm
      · exact tail_fttt l Z a0 hw p0 q1 p2 q3 p4 ra rb (p4 &&& (3 : Int32)) q3 h0 n0 Z0 E_ra E_rb ha (by rw [hm] <;> decide) (by rw [hm] <;> decide) (by rw [hm] <;> decide) X2 N2 hx hZ hby hml hown Bd.returns Bd.notSynchronized e2
      · exact tail_ff l Z a0 hw p0 q1 p2 q3 p4 ra rb (p4 &&& (3 : Int32)) q3 h0 n0 Z0 E_ra E_rb ha (by rw [hm] <;> decide) X2 N2 hx hZ hby hml hown Bd.returns Bd.notSynchronized e2
      · exact tail_ftf l Z a0 hw p0 q1 p2 q3 p4 ra rb (p4 &&& (3 : Int32)) q3 ca cl h0 n0 Z0 E_ra E_rb ha (by rw [hm] <;> decide) (by rw [hm] <;> decide) hC X2 N2 hx hZ hby hml hown Bd.returns Bd.notSynchronized e2
      · exact tail_fttf l Z a0 hw p0 q1 p2 q3 p4 ra rb (p4 &&& (3 : Int32)) q3 h0 n0 Z0 E_ra E_rb ha (by rw [hm] <;> decide) (by rw [hm] <;> decide) (by rw [hm] <;> decide) X2 N2 hx hZ hby hml hown Bd.returns Bd.notSynchronized e2
  refine ⟨s₂, o, pre0 _ ?_, r1, r2, r3⟩
  show Steps p.tables e below (s₁.setTop (mkF m 0 #[.val (.int p0), .val (.long q1), .second, .val (.int p2), .val (.long q3), .second, .val (.int p4), .unset, .unset, .unset, .unset, .unset, .unset, .unset, .unset, .unset, .unset] [])) _
  refine XS.iloadN X0.here hx rfl (hb hby at_0) rfl ?_
  show Steps p.tables e below (s₁.setTop (mkF m 1 #[.val (.int p0), .val (.long q1), .second, .val (.int p2), .val (.long q3), .second, .val (.int p4), .unset, .unset, .unset, .unset, .unset, .unset, .unset, .unset, .unset, .unset] [(.int p0)])) _
  refine st1 _ ?_
  show Steps p.tables e below (T1.setTop (mkF m 4 #[.val (.int p0), .val (.long q1), .second, .val (.int p2), .val (.long q3), .second, .val (.int p4), .unset, .unset, .unset, .unset, .unset, .unset, .unset, .unset, .unset, .unset] [(.ref ra)])) _
  refine XS.astore X1.here hx rfl (hb hby at_4) rfl rfl (l' := #[.val (.int p0), .val (.long q1), .second, .val (.int p2), .val (.long q3), .second, .val (.int p4), .val (.ref ra), .unset, .unset, .unset, .unset, .unset, .unset, .unset, .unset, .unset]) rfl ?_
  show Steps p.tables e below (T1.setTop (mkF m 6 #[.val (.int p0), .val (.long q1), .second, .val (.int p2), .val (.long q3), .second, .val (.int p4), .val (.ref ra), .unset, .unset, .unset, .unset, .unset, .unset, .unset, .unset, .unset] [])) _
  refine XS.iloadN X1.here hx rfl (hb hby at_6) rfl ?_
  show Steps p.tables e below (T1.setTop (mkF m 7 #[.val (.int p0), .val (.long q1), .second, .val (.int p2), .val (.long q3), .second, .val (.int p4), .val (.ref ra), .unset, .unset, .unset, .unset, .unset, .unset, .unset, .unset, .unset] [(.int p2)])) _
  refine st2 _ ?_
  show Steps p.tables e below (T2.setTop (mkF m 10 #[.val (.int p0), .val (.long q1), .second, .val (.int p2), .val (.long q3), .second, .val (.int p4), .val (.ref ra), .unset, .unset, .unset, .unset, .unset, .unset, .unset, .unset, .unset] [(.ref rb)])) _
  refine XS.astore X2.here hx rfl (hb hby at_10) rfl rfl (l' := #[.val (.int p0), .val (.long q1), .second, .val (.int p2), .val (.long q3), .second, .val (.int p4), .val (.ref ra), .val (.ref rb), .unset, .unset, .unset, .unset, .unset, .unset, .unset, .unset]) rfl ?_
  show Steps p.tables e below (T2.setTop (mkF m 12 #[.val (.int p0), .val (.long q1), .second, .val (.int p2), .val (.long q3), .second, .val (.int p4), .val (.ref ra), .val (.ref rb), .unset, .unset, .unset, .unset, .unset, .unset, .unset, .unset] [])) _
  refine XS.iload X2.here hx rfl (hb hby at_12) rfl ?_
  show Steps p.tables e below (T2.setTop (mkF m 14 #[.val (.int p0), .val (.long q1), .second, .val (.int p2), .val (.long q3), .second, .val (.int p4), .val (.ref ra), .val (.ref rb), .unset, .unset, .unset, .unset, .unset, .unset, .unset, .unset] [(.int p4)])) _
  refine XS.iconst X2.here hx rfl (hb hby at_14) ?_
  show Steps p.tables e below (T2.setTop (mkF m 15 #[.val (.int p0), .val (.long q1), .second, .val (.int p2), .val (.long q3), .second, .val (.int p4), .val (.ref ra), .val (.ref rb), .unset, .unset, .unset, .unset, .unset, .unset, .unset, .unset] [(.int (3 : Int32)), (.int p4)])) _
  refine XS.iand X2.here hx rfl (hb hby at_15) rfl ?_
  show Steps p.tables e below (T2.setTop (mkF m 16 #[.val (.int p0), .val (.long q1), .second, .val (.int p2), .val (.long q3), .second, .val (.int p4), .val (.ref ra), .val (.ref rb), .unset, .unset, .unset, .unset, .unset, .unset, .unset, .unset] [(.int (p4 &&& (3 : Int32)))])) _
  refine XS.istore X2.here hx rfl (hb hby at_16) rfl (l' := #[.val (.int p0), .val (.long q1), .second, .val (.int p2), .val (.long q3), .second, .val (.int p4), .val (.ref ra), .val (.ref rb), .val (.int (p4 &&& (3 : Int32))), .unset, .unset, .unset, .unset, .unset, .unset, .unset]) rfl ?_
  show Steps p.tables e below (T2.setTop (mkF m 18 #[.val (.int p0), .val (.long q1), .second, .val (.int p2), .val (.long q3), .second, .val (.int p4), .val (.ref ra), .val (.ref rb), .val (.int (p4 &&& (3 : Int32))), .unset, .unset, .unset, .unset, .unset, .unset, .unset] [])) _
  refine XS.iload X2.here hx rfl (hb hby at_18) rfl ?_
  show Steps p.tables e below (T2.setTop (mkF m 20 #[.val (.int p0), .val (.long q1), .second, .val (.int p2), .val (.long q3), .second, .val (.int p4), .val (.ref ra), .val (.ref rb), .val (.int (p4 &&& (3 : Int32))), .unset, .unset, .unset, .unset, .unset, .unset, .unset] [(.int (p4 &&& (3 : Int32)))])) _
  refine XS.ifYes X2.here hx rfl (pc0 := 20) (pc' := 29) rfl (hb hby at_20) rfl ((if0 _ _).trans (feq hc20).2) (by decide) (by decide) ?_
  show Steps p.tables e below (T2.setTop (mkF m 29 #[.val (.int p0), .val (.long q1), .second, .val (.int p2), .val (.long q3), .second, .val (.int p4), .val (.ref ra), .val (.ref rb), .val (.int (p4 &&& (3 : Int32))), .unset, .unset, .unset, .unset, .unset, .unset, .unset] [])) _
  refine XS.iload X2.here hx rfl (hb hby at_29) rfl ?_
  show Steps p.tables e below (T2.setTop (mkF m 31 #[.val (.int p0), .val (.long q1), .second, .val (.int p2), .val (.long q3), .second, .val (.int p4), .val (.ref ra), .val (.ref rb), .val (.int (p4 &&& (3 : Int32))), .unset, .unset, .unset, .unset, .unset, .unset, .unset] [(.int (p4 &&& (3 : Int32)))])) _
  refine XS.iconst X2.here hx rfl (hb hby at_31) ?_
  show Steps p.tables e below (T2.setTop (mkF m 32 #[.val (.int p0), .val (.long q1), .second, .val (.int p2), .val (.long q3), .second, .val (.int p4), .val (.ref ra), .val (.ref rb), .val (.int (p4 &&& (3 : Int32))), .unset, .unset, .unset, .unset, .unset, .unset, .unset] [(.int (1 : Int32)), (.int (p4 &&& (3 : Int32)))])) _
  refine XS.icmpYes X2.here hx rfl (pc0 := 32) (pc' := 51) rfl (hb hby at_32) rfl (feq hc32).2 (by decide) (by decide) ?_
  show Steps p.tables e below (T2.setTop (mkF m 51 #[.val (.int p0), .val (.long q1), .second, .val (.int p2), .val (.long q3), .second, .val (.int p4), .val (.ref ra), .val (.ref rb), .val (.int (p4 &&& (3 : Int32))), .unset, .unset, .unset, .unset, .unset, .unset, .unset] [])) _
  refine XS.lload X2.here hx rfl (hb hby at_51) rfl ?_
  show Steps p.tables e below (T2.setTop (mkF m 53 #[.val (.int p0), .val (.long q1), .second, .val (.int p2), .val (.long q3), .second, .val (.int p4), .val (.ref ra), .val (.ref rb), .val (.int (p4 &&& (3 : Int32))), .unset, .unset, .unset, .unset, .unset, .unset, .unset] [(.long q3)])) _
  refine XS.lstore X2.here hx rfl (hb hby at_53) rfl (l' := #[.val (.int p0), .val (.long q1), .second, .val (.int p2), .val (.long q3), .second, .val (.int p4), .val (.ref ra), .val (.ref rb), .val (.int (p4 &&& (3 : Int32))), .val (.long q3), .second, .unset, .unset, .unset, .unset, .unset]) rfl ?_
  show Steps p.tables e below (T2.setTop (mkF m 55 #[.val (.int p0), .val (.long q1), .second, .val (.int p2), .val (.long q3), .second, .val (.int p4), .val (.ref ra), .val (.ref rb), .val (.int (p4 &&& (3 : Int32))), .val (.long q3), .second, .unset, .unset, .unset, .unset, .unset] [])) _
  exact stt
set_option maxRecDepth 65536 in
set_option maxHeartbeats 40000000 in
theorem comes_1 {Post : Tables → Env → Array Value → State → Outcome → State → Prop} (hpost : ∀ tb e args s v u, (limb_1_1.after args s (.returned v) u = true ∧ limb_1_2.after args s (.returned v) u = true ∧ True) → FrameEnd s (.returned v) u (Jvm.fieldLocs frame_1_writes args s ++ Jvm.arrayLocs frame_1_arrays args s ++ Jvm.staticLocs frame_1_statics s) 16 128 → Post tb e args s (.returned v) u) :
    ArmFor flags0 classFile x code maxLocals ret World_1 tables_1 room_1 Calls_1 rest_1 Pre_1 Post := by
  intro l hfl _ _ p e ha hc hk s m args below hf hA hF happ hP
  obtain ⟨hcalls, hrest, hpre⟩ := hP
  obtain ⟨-, -, -, hnamed, -, -, -, hat⟩ := (Spec.applies_iff hf).mp happ
  obtain ⟨hg, hn⟩ := and_e (Cond.before_iff.mp (show (Jvm.Cond.and given_1 narrow_1).before args s = true from hpre))
  obtain ⟨g0, hg⟩ := and_e hg
  obtain ⟨g1, hg⟩ := and_e hg
  obtain ⟨g2, hg⟩ := and_e hg
  obtain ⟨g3, hg⟩ := and_e hg
  obtain ⟨g4, hg⟩ := and_e hg
  have g5 := hg
  obtain ⟨w0, w1, w2, w3, w4, rfl⟩ : ∃ w0 w1 w2 w3 w4 : Value, args = #[w0, w1, w2, w3, w4] := by
    have hs : args.size = 5 := by simpa [Cond.value, given_1] using g0
    obtain ⟨L⟩ := args
    match L, hs with
    | [w0, w1, w2, w3, w4], _ => exact ⟨w0, w1, w2, w3, w4, rfl⟩
  obtain ⟨i0, ei0⟩ := is_v g1
  obtain rfl : w0 = (.int i0) := Option.some.inj ei0
  obtain ⟨i1, ei1⟩ := isL_v g2
  obtain rfl : w1 = (.long i1) := Option.some.inj ei1
  obtain ⟨i2, ei2⟩ := is_v g3
  obtain rfl : w2 = (.int i2) := Option.some.inj ei2
  obtain ⟨i3, ei3⟩ := isL_v g4
  obtain rfl : w3 = (.long i3) := Option.some.inj ei3
  obtain ⟨i4, ei4⟩ := is_v g5
  obtain rfl : w4 = (.int i4) := Option.some.inj ei4
  have hw := fun d (hd : d ∈ tables_1) => atoms_spec (ws := Jvm.Cond.code x code maxLocals ret :: tables_1) hat d (List.mem_cons_of_mem _ hd)
  obtain ⟨c0, hn⟩ := and_e hn
  obtain ⟨c1, hn⟩ := and_e hn
  obtain ⟨c2, hn⟩ := and_e hn
  have c3 := hn
  obtain ⟨w_DIRECTORY, ev_DIRECTORY⟩ := exa_v c0
  have E_DIRECTORY := Exa.start ev_DIRECTORY c0
  have S_DIRECTORY := Sta.start ev_DIRECTORY (Or.inr ⟨(hw _ (List.mem_of_getElem? (i := 5) rfl)), (hw _ (List.mem_of_getElem? (i := 6) rfl))⟩)
  obtain ⟨w_FILE, ev_FILE⟩ := exa_v c1
  have E_FILE := Exa.start ev_FILE c1
  have S_FILE := Sta.start ev_FILE (Or.inr ⟨(hw _ (List.mem_of_getElem? (i := 5) rfl)), (hw _ (List.mem_of_getElem? (i := 8) rfl))⟩)
  have F_DIRECTORY_ordinal := own_fldI ev_DIRECTORY c2
  have F_FILE_ordinal := own_fldI ev_FILE c3
  obtain ⟨ca, cl, hC⟩ := own_cache hrest
  obtain ⟨ra, hra, Era⟩ : ∃ r, PTy s s.heap i0 r ∧ Exa s s.heap r "com/example/lessor/lessor/namespace/FileType" := by
    by_cases hq : (i0 &&& (1 : Int32)) = (0 : Int32)
    · exact ⟨w_DIRECTORY, Or.inl ⟨S_DIRECTORY, hq⟩, E_DIRECTORY⟩
    · exact ⟨w_FILE, Or.inr ⟨S_FILE, hq⟩, E_FILE⟩
  obtain ⟨rb, hrb, Erb⟩ : ∃ r, PTy s s.heap i2 r ∧ Exa s s.heap r "com/example/lessor/lessor/namespace/FileType" := by
    by_cases hq : (i2 &&& (1 : Int32)) = (0 : Int32)
    · exact ⟨w_DIRECTORY, Or.inl ⟨S_DIRECTORY, hq⟩, E_DIRECTORY⟩
    · exact ⟨w_FILE, Or.inr ⟨S_FILE, hq⟩, E_FILE⟩
  have key : MetFree l x (head1 (Jvm.Cond.code x code maxLocals ret :: tables_1) room_1) (fun a U => a = #[(.int i0), (.long i1), (.int i2), (.long i3), (.int i4)] ∧ s.Warmed39 U.vm ∧ U.heap = s.heap) (fun _ _ _ _ _ => True) (fun _ U o U' => ∃ v L, o = .returned v ∧ (v = some (.int (1 : Int32)) ∧ Fr s.heap.size L) ∧ FrameEnd U o U' L room_1.cells room_1.slots) := by
    rcases own_m i4 with hb | hb | hb | hb
    · exact rm0_f l s _ hw tables_1 i0 i1 i2 i3 i4 ra rb ca cl s.heap s.heap.size (Nat.le_refl _) hra hrb (by rw [hb] <;> decide) Era Erb hC
    · exact rm0_tf l s _ hw tables_1 i0 i1 i2 i3 i4 ra rb ca cl s.heap s.heap.size (Nat.le_refl _) hra hrb (by rw [hb] <;> decide) (by rw [hb] <;> decide) Era Erb hC
    · exact rm0_tt l s _ hw tables_1 i0 i1 i2 i3 i4 ra rb ca cl s.heap s.heap.size (Nat.le_refl _) hra hrb (by rw [hb] <;> decide) (by rw [hb] <;> decide) Era Erb hC
    · exact rm0_tt l s _ hw tables_1 i0 i1 i2 i3 i4 ra rb ca cl s.heap s.heap.size (Nat.le_refl _) hra hrb (by rw [hb] <;> decide) (by rw [hb] <;> decide) Era Erb hC
  obtain ⟨n, o, h1, h2, h3, _, L, rfl, ⟨rfl, N⟩, hq⟩ := key p e ha hc hk s m _ below hf ((Spec.applies_iff_loose hf).mp happ).1 ⟨rfl, State.Warmed39.refl s, rfl⟩ trivial
  refine ⟨n, _, h1, h2, h3, hpost _ _ _ _ _ _ ⟨Cond.after_iff.mpr rfl, Cond.after_iff.mpr (eq_i res_at (Term.int_eval (1)) rfl), trivial⟩ ⟨hq.1, hq.2.1, (hq.2.2.sift fun y hy => Or.inr (N y hy)).mono (by decide) (by decide)⟩⟩
theorem main_1_1 : Claimed_1_1 := comes_1 fun _ _ _ _ _ _ h hF => ⟨h.1, hF⟩
theorem main_1_2 : Claimed_1_2 := comes_1 fun _ _ _ _ _ _ h hF => ⟨h.2.1, hF⟩
end Jvm.Pilot.@@N@@
namespace Jvm.Pilot.@@N@@
open Jvm Jvm.ClassFile Sem Op Lib Jvm.Free Jvm.Stand Jvm.Pilot.@@N@@.Jvm.D
/-! MADE BY PROGRAM (witnessworld.py) out of the Statement's table words and the real class files: 19 classes; the members and pool entries that the words name. The judged class is class 1, her method 2. -/
namespace start1
open Jvm.ClassFile
def u (s : String) : CpInfo := .utf8 (stringToUtf16 s)
/-- a pool by its gaps: so many unusable entries, then the entry; so many at the end -/
def gap : Nat → List CpInfo → List CpInfo
  | 0, r => r
  | n + 1, r => .unusable :: gap n r
def poolList (es : List (Nat × CpInfo)) (last : Nat) : List CpInfo := es.foldr (fun e r => gap e.1 (e.2 :: r)) (gap last [])
def pool (es : List (Nat × CpInfo)) (last : Nat) : Array CpInfo := ⟨poolList es last⟩
def fileOf (pool : Array CpInfo) (this : Nat) (attrs : Array Attribute := #[]) (ms : Array MethodInfo := #[]) (fl : Nat := 33) (sup : Nat := 0) (ifs : Array Nat := #[]) (fds : Array FieldInfo := #[]) : ClassFile where
  minorVersion := 0
  majorVersion := 65
  constantPool := pool
  accessFlags := fl
  thisClass := this
  superClass := sup
  interfaces := ifs
  fields := fds
  methods := ms
  attributes := attrs
def plain (name : String) (sup : Option ClassId) : Class where
  name := name
  kind := .ordinary
  loader := none
  accessFlags := 33
  super := sup
  interfaces := #[]
  cf := none
  fields := #[]
  methods := #[]
  instanceTypes := #[]
  staticTypes := #[]
  resolved := #[]
  callSites := []
  init := .initialized
  statics := none
  mirror := none

def pool0 : Array CpInfo := pool [(5, u "<init>"), (0, u "()V"), (1, .class_ 10), (1, u "java/lang/Object")] 113

def k0c0 : Code := { maxStack := 0, maxLocals := 1, code := object_method_1_code, exceptionTable := #[], attributes := #[] }
def k0m0 : Method := { name := "<init>", desc := "()V", sig := { parameters := [], returnType := none }, accessFlags := 1, code := some k0c0 }
/-- java/lang/Object -/
def k0 : Class := { plain "java/lang/Object" none with
  accessFlags := 33
  interfaces := #[]
  cf := some (fileOf pool0 8 #[] #[{ accessFlags := 1, nameIndex := 5, descriptorIndex := 6, attributes := #[] }] 33 0 #[] #[])
  fields := #[]
  methods := #[k0m0]
  instanceTypes := #[]
  staticTypes := #[]
  resolved := Array.replicate 124 none
  statics := none }

def pool1 : Array CpInfo := pool [(2, .class_ 4), (1, u "java/lang/Object"), (0, u "<init>"), (0, u "()V"), (0, .fieldref 8 9), (0, .class_ 10), (0, .nameAndType 11 12), (0, u "com/example/lessor/lessor/namespace/FileType"), (0, u "DIRECTORY"), (0, u "Lcom/example/lessor/lessor/namespace/FileType;"), (0, .fieldref 8 14), (0, .nameAndType 15 12), (0, u "FILE"), (0, .methodref 17 18), (0, .class_ 19), (0, .nameAndType 20 21), (0, u "com/example/lessor/lessor/namespace/BindingEqualsPinLaw"), (0, u "typeOf"), (0, u "(I)Lcom/example/lessor/lessor/namespace/FileType;"), (0, .class_ 23), (0, u "com/example/lessor/lessor/namespace/Binding"), (0, .methodref 22 25), (0, .nameAndType 5 26), (0, u "(Lcom/example/lessor/lessor/namespace/FileType;J)V"), (0, .methodref 22 28), (0, .nameAndType 29 30), (0, u "equals"), (0, u "(Ljava/lang/Object;)Z"), (0, .methodref 32 33), (0, .class_ 34), (0, .nameAndType 35 36), (0, u "java/lang/Long"), (0, u "valueOf"), (0, u "(J)Ljava/lang/Long;"), (3, u "law"), (0, u "(IJIJI)Z")] 2

def k1m0 : Method := { name := "<init>", desc := "()V", sig := { parameters := [], returnType := none }, accessFlags := 2, code := none }
def k1c1 : Code := { maxStack := 2, maxLocals := 1, code := method_2_code, exceptionTable := #[], attributes := #[] }
def k1m1 : Method := { name := "typeOf", desc := "(I)Lcom/example/lessor/lessor/namespace/FileType;", sig := { parameters := [.int], returnType := some (.object "com/example/lessor/lessor/namespace/FileType") }, accessFlags := 10, code := some k1c1 }
def k1c2 : Code := { maxStack := 6, maxLocals := 17, code := code, exceptionTable := #[], attributes := #[] }
def k1m2 : Method := { name := "law", desc := "(IJIJI)Z", sig := { parameters := [.int, .long, .int, .long, .int], returnType := some .boolean }, accessFlags := 9, code := some k1c2 }
/-- com/example/lessor/lessor/namespace/BindingEqualsPinLaw -/
def k1 : Class := { plain "com/example/lessor/lessor/namespace/BindingEqualsPinLaw" (some 0) with
  accessFlags := 49
  interfaces := #[]
  cf := some (fileOf pool1 17 #[] #[{ accessFlags := 2, nameIndex := 5, descriptorIndex := 6, attributes := #[] }, { accessFlags := 10, nameIndex := 20, descriptorIndex := 21, attributes := #[] }, { accessFlags := 9, nameIndex := 40, descriptorIndex := 41, attributes := #[] }] 49 2 #[] #[])
  fields := #[]
  methods := #[k1m0, k1m1, k1m2]
  instanceTypes := #[]
  staticTypes := #[]
  resolved := Array.replicate 44 none
  statics := none }

def pool2 : Array CpInfo := pool [(1, .class_ 2), (0, u "java/lang/constant/Constable"), (0, .class_ 4), (0, u "java/lang/Object")] 6

/-- java/lang/constant/Constable -/
def k2 : Class := { plain "java/lang/constant/Constable" (some 0) with
  accessFlags := 1537
  interfaces := #[]
  cf := some (fileOf pool2 1 #[] #[] 1537 3 #[] #[])
  fields := #[]
  methods := #[]
  instanceTypes := #[]
  staticTypes := #[]
  resolved := Array.replicate 11 none
  statics := none }

def pool3 : Array CpInfo := pool [(1, .class_ 2), (0, u "java/lang/Comparable"), (0, .class_ 4), (0, u "java/lang/Object")] 7

/-- java/lang/Comparable -/
def k3 : Class := { plain "java/lang/Comparable" (some 0) with
  accessFlags := 1537
  interfaces := #[]
  cf := some (fileOf pool3 1 #[] #[] 1537 3 #[] #[])
  fields := #[]
  methods := #[]
  instanceTypes := #[]
  staticTypes := #[]
  resolved := Array.replicate 12 none
  statics := none }

def pool4 : Array CpInfo := pool [(1, .class_ 2), (0, u "java/io/Serializable"), (0, .class_ 4), (0, u "java/lang/Object")] 2

/-- java/io/Serializable -/
def k4 : Class := { plain "java/io/Serializable" (some 0) with
  accessFlags := 1537
  interfaces := #[]
  cf := some (fileOf pool4 1 #[] #[] 1537 3 #[] #[])
  fields := #[]
  methods := #[]
  instanceTypes := #[]
  staticTypes := #[]
  resolved := Array.replicate 7 none
  statics := none }

def pool5 : Array CpInfo := pool [(2, .class_ 4), (1, u "java/lang/Enum"), (0, u "name"), (0, u "Ljava/lang/String;"), (2, u "ordinal"), (0, u "I"), (1, .class_ 14), (1, u "java/lang/Object"), (4, u "hash"), (86, .class_ 108), (1, u "java/lang/Enum$EnumDesc"), (2, .class_ 112), (0, u "java/lang/constant/Constable"), (0, .class_ 114), (0, u "java/lang/Comparable"), (0, .class_ 116), (0, u "java/io/Serializable")] 87

/-- java/lang/Enum -/
def k5 : Class := { plain "java/lang/Enum" (some 0) with
  accessFlags := 1057
  interfaces := #[2, 3, 4]
  cf := some (fileOf pool5 2 #[.nestMembers #[106]] #[] 1057 12 #[111, 113, 115] #[{ accessFlags := 18, nameIndex := 5, descriptorIndex := 6, attributes := #[] }, { accessFlags := 18, nameIndex := 9, descriptorIndex := 10, attributes := #[] }, { accessFlags := 2, nameIndex := 19, descriptorIndex := 10, attributes := #[] }])
  fields := #[{ name := "name", type := (.object "java/lang/String"), accessFlags := 18, slot := 0, constantValue := 0 }, { name := "ordinal", type := .int, accessFlags := 18, slot := 1, constantValue := 0 }, { name := "hash", type := .int, accessFlags := 2, slot := 2, constantValue := 0 }]
  methods := #[]
  instanceTypes := #[(.object "java/lang/String"), .int, .int]
  staticTypes := #[]
  resolved := Array.replicate 204 none
  statics := none }

def pool6 : Array CpInfo := pool [(1, .class_ 2), (0, u "com/example/lessor/lessor/namespace/FileType"), (2, u "DIRECTORY"), (0, u "Lcom/example/lessor/lessor/namespace/FileType;"), (2, u "FILE"), (2, u "$VALUES"), (0, u "[Lcom/example/lessor/lessor/namespace/FileType;"), (6, .class_ 22), (1, u "java/lang/Enum")] 41

/-- com/example/lessor/lessor/namespace/FileType -/
def k6 : Class := { plain "com/example/lessor/lessor/namespace/FileType" (some 5) with
  accessFlags := 16433
  interfaces := #[]
  cf := some (fileOf pool6 1 #[] #[] 16433 20 #[] #[{ accessFlags := 16409, nameIndex := 5, descriptorIndex := 6, attributes := #[] }, { accessFlags := 16409, nameIndex := 9, descriptorIndex := 6, attributes := #[] }, { accessFlags := 4122, nameIndex := 12, descriptorIndex := 13, attributes := #[] }])
  fields := #[{ name := "DIRECTORY", type := (.object "com/example/lessor/lessor/namespace/FileType"), accessFlags := 16409, slot := 0, constantValue := 0 }, { name := "FILE", type := (.object "com/example/lessor/lessor/namespace/FileType"), accessFlags := 16409, slot := 1, constantValue := 0 }, { name := "$VALUES", type := (.array (.object "com/example/lessor/lessor/namespace/FileType")), accessFlags := 4122, slot := 2, constantValue := 0 }]
  methods := #[]
  instanceTypes := #[(.object "java/lang/String"), .int, .int]
  staticTypes := #[(.object "com/example/lessor/lessor/namespace/FileType"), (.object "com/example/lessor/lessor/namespace/FileType"), (.array (.object "com/example/lessor/lessor/namespace/FileType"))]
  resolved := Array.replicate 64 none
  statics := some 0 }

def pool7 : Array CpInfo := pool [(1, .methodref 2 3), (0, .class_ 4), (0, .nameAndType 5 6), (0, u "java/lang/Object"), (0, u "<init>"), (0, u "()V"), (0, .methodref 8 9), (0, .class_ 10), (0, .nameAndType 11 12), (0, u "java/util/Objects"), (0, u "requireNonNull"), (0, u "(Ljava/lang/Object;)Ljava/lang/Object;"), (0, .class_ 14), (0, u "com/example/lessor/lessor/namespace/FileType"), (0, .fieldref 16 17), (0, .class_ 18), (0, .nameAndType 19 20), (0, u "com/example/lessor/lessor/namespace/Binding"), (0, u "type"), (0, u "Lcom/example/lessor/lessor/namespace/FileType;"), (0, .fieldref 16 22), (0, .nameAndType 23 24), (0, u "identifier"), (0, u "J"), (22, u "UNKNOWN"), (3, u "(Lcom/example/lessor/lessor/namespace/FileType;J)V"), (7, u "equals"), (0, u "(Ljava/lang/Object;)Z")] 19

def k7c0 : Code := { maxStack := 3, maxLocals := 4, code := prog_13_method_1_code, exceptionTable := #[], attributes := #[] }
def k7m0 : Method := { name := "<init>", desc := "(Lcom/example/lessor/lessor/namespace/FileType;J)V", sig := { parameters := [(.object "com/example/lessor/lessor/namespace/FileType"), .long], returnType := none }, accessFlags := 1, code := some k7c0 }
def k7c1 : Code := { maxStack := 4, maxLocals := 3, code := prog_13_method_5_code, exceptionTable := #[], attributes := #[] }
def k7m1 : Method := { name := "equals", desc := "(Ljava/lang/Object;)Z", sig := { parameters := [(.object "java/lang/Object")], returnType := some .boolean }, accessFlags := 1, code := some k7c1 }
/-- com/example/lessor/lessor/namespace/Binding -/
def k7 : Class := { plain "com/example/lessor/lessor/namespace/Binding" (some 0) with
  accessFlags := 33
  interfaces := #[]
  cf := some (fileOf pool7 16 #[] #[{ accessFlags := 1, nameIndex := 5, descriptorIndex := 51, attributes := #[] }, { accessFlags := 1, nameIndex := 59, descriptorIndex := 60, attributes := #[] }] 33 2 #[] #[{ accessFlags := 25, nameIndex := 47, descriptorIndex := 24, attributes := #[] }, { accessFlags := 18, nameIndex := 19, descriptorIndex := 20, attributes := #[] }, { accessFlags := 18, nameIndex := 23, descriptorIndex := 24, attributes := #[] }])
  fields := #[{ name := "UNKNOWN", type := .long, accessFlags := 25, slot := 0, constantValue := 0 }, { name := "type", type := (.object "com/example/lessor/lessor/namespace/FileType"), accessFlags := 18, slot := 0, constantValue := 0 }, { name := "identifier", type := .long, accessFlags := 18, slot := 1, constantValue := 0 }]
  methods := #[k7m0, k7m1]
  instanceTypes := #[(.object "com/example/lessor/lessor/namespace/FileType"), .long]
  staticTypes := #[.long]
  resolved := Array.replicate 80 none
  statics := none }

def pool8 : Array CpInfo := pool [(2, .class_ 4), (1, u "java/lang/Object"), (0, u "<init>"), (0, u "()V"), (35, .class_ 44), (1, u "java/util/Objects"), (0, u "requireNonNull"), (0, u "(Ljava/lang/Object;)Ljava/lang/Object;")] 137

def k8m0 : Method := { name := "<init>", desc := "()V", sig := { parameters := [], returnType := none }, accessFlags := 2, code := none }
def k8c1 : Code := { maxStack := 2, maxLocals := 1, code := jdk_31_method_10_code, exceptionTable := #[], attributes := #[] }
def k8m1 : Method := { name := "requireNonNull", desc := "(Ljava/lang/Object;)Ljava/lang/Object;", sig := { parameters := [(.object "java/lang/Object")], returnType := some (.object "java/lang/Object") }, accessFlags := 9, code := some k8c1 }
/-- java/util/Objects -/
def k8 : Class := { plain "java/util/Objects" (some 0) with
  accessFlags := 49
  interfaces := #[]
  cf := some (fileOf pool8 42 #[] #[{ accessFlags := 2, nameIndex := 5, descriptorIndex := 6, attributes := #[] }, { accessFlags := 9, nameIndex := 45, descriptorIndex := 46, attributes := #[] }] 49 2 #[] #[])
  fields := #[]
  methods := #[k8m0, k8m1]
  instanceTypes := #[]
  staticTypes := #[]
  resolved := Array.replicate 184 none
  statics := none }

def pool9 : Array CpInfo := pool [(1, .methodref 2 3), (0, .class_ 4), (0, .nameAndType 5 6), (0, u "java/lang/Object"), (0, u "<init>"), (0, u "()V"), (1, .class_ 10), (1, u "java/lang/Number"), (2, .class_ 14), (0, u "java/io/Serializable"), (0, u "serialVersionUID"), (0, u "J")] 20

def k9c0 : Code := { maxStack := 1, maxLocals := 1, code := jdk_18_method_1_code, exceptionTable := #[], attributes := #[] }
def k9m0 : Method := { name := "<init>", desc := "()V", sig := { parameters := [], returnType := none }, accessFlags := 1, code := some k9c0 }
/-- java/lang/Number -/
def k9 : Class := { plain "java/lang/Number" (some 0) with
  accessFlags := 1057
  interfaces := #[4]
  cf := some (fileOf pool9 8 #[] #[{ accessFlags := 1, nameIndex := 5, descriptorIndex := 6, attributes := #[] }] 1057 2 #[13] #[{ accessFlags := 26, nameIndex := 15, descriptorIndex := 16, attributes := #[] }])
  fields := #[{ name := "serialVersionUID", type := .long, accessFlags := 26, slot := 0, constantValue := 0 }]
  methods := #[k9m0]
  instanceTypes := #[]
  staticTypes := #[.long]
  resolved := Array.replicate 37 none
  statics := none }

def pool10 : Array CpInfo := pool [(1, .class_ 2), (0, u "java/lang/constant/ConstantDesc"), (0, .class_ 4), (0, u "java/lang/Object")] 32

/-- java/lang/constant/ConstantDesc -/
def k10 : Class := { plain "java/lang/constant/ConstantDesc" (some 0) with
  accessFlags := 1537
  interfaces := #[]
  cf := some (fileOf pool10 1 #[] #[] 1537 3 #[] #[])
  fields := #[]
  methods := #[]
  instanceTypes := #[]
  staticTypes := #[]
  resolved := Array.replicate 37 none
  statics := none }

def pool11 : Array CpInfo := pool [(1, .class_ 2), (0, u "java/lang/Long"), (55, .nameAndType 59 60), (0, u "<init>"), (0, u "()V"), (24, u "valueOf"), (143, u "(J)Ljava/lang/Long;"), (0, .long 18446744073709551488), (1, .long 127), (1, .fieldref 235 236), (0, .class_ 237), (0, .nameAndType 238 239), (0, u "java/lang/Long$LongCache"), (0, u "cache"), (0, u "[Ljava/lang/Long;"), (0, .methodref 1 241), (0, .nameAndType 59 242), (0, u "(J)V"), (27, .methodref 271 58), (0, .class_ 272), (0, u "java/lang/Number"), (0, .fieldref 1 274), (0, .nameAndType 275 276), (0, u "value"), (0, u "J"), (84, u "TYPE"), (0, u "Ljava/lang/Class;"), (0, .class_ 364), (0, u "java/lang/Comparable"), (0, .class_ 366), (0, u "java/lang/constant/Constable"), (0, .class_ 368), (0, u "java/lang/constant/ConstantDesc"), (0, u "MIN_VALUE"), (1, u "MAX_VALUE"), (4, u "SIZE"), (0, u "I"), (1, u "BYTES"), (1, u "serialVersionUID")] 142

def k11c0 : Code := { maxStack := 4, maxLocals := 3, code := jdk_35_method_24_code, exceptionTable := #[], attributes := #[] }
def k11m0 : Method := { name := "valueOf", desc := "(J)Ljava/lang/Long;", sig := { parameters := [.long], returnType := some (.object "java/lang/Long") }, accessFlags := 9, code := some k11c0 }
def k11c1 : Code := { maxStack := 3, maxLocals := 3, code := jdk_35_method_26_code, exceptionTable := #[], attributes := #[] }
def k11m1 : Method := { name := "<init>", desc := "(J)V", sig := { parameters := [.long], returnType := none }, accessFlags := 1, code := some k11c1 }
/-- java/lang/Long -/
def k11 : Class := { plain "java/lang/Long" (some 9) with
  accessFlags := 49
  interfaces := #[3, 2, 10]
  cf := some (fileOf pool11 1 #[.nestMembers #[235]] #[{ accessFlags := 9, nameIndex := 85, descriptorIndex := 229, attributes := #[] }, { accessFlags := 1, nameIndex := 59, descriptorIndex := 242, attributes := #[] }] 49 271 #[363, 365, 367] #[{ accessFlags := 25, nameIndex := 369, descriptorIndex := 276, attributes := #[] }, { accessFlags := 25, nameIndex := 371, descriptorIndex := 276, attributes := #[] }, { accessFlags := 25, nameIndex := 361, descriptorIndex := 362, attributes := #[] }, { accessFlags := 18, nameIndex := 275, descriptorIndex := 276, attributes := #[] }, { accessFlags := 25, nameIndex := 376, descriptorIndex := 377, attributes := #[] }, { accessFlags := 25, nameIndex := 379, descriptorIndex := 377, attributes := #[] }, { accessFlags := 26, nameIndex := 381, descriptorIndex := 276, attributes := #[] }])
  fields := #[{ name := "MIN_VALUE", type := .long, accessFlags := 25, slot := 0, constantValue := 0 }, { name := "MAX_VALUE", type := .long, accessFlags := 25, slot := 1, constantValue := 0 }, { name := "TYPE", type := (.object "java/lang/Class"), accessFlags := 25, slot := 2, constantValue := 0 }, { name := "value", type := .long, accessFlags := 18, slot := 0, constantValue := 0 }, { name := "SIZE", type := .int, accessFlags := 25, slot := 3, constantValue := 0 }, { name := "BYTES", type := .int, accessFlags := 25, slot := 4, constantValue := 0 }, { name := "serialVersionUID", type := .long, accessFlags := 26, slot := 5, constantValue := 0 }]
  methods := #[k11m0, k11m1]
  instanceTypes := #[.long]
  staticTypes := #[.long, .long, (.object "java/lang/Class"), .int, .int, .long]
  resolved := Array.replicate 524 none
  statics := none }

def pool12 : Array CpInfo := pool [(2, .class_ 4), (1, u "java/lang/Object"), (0, u "<init>"), (0, u "()V"), (0, .class_ 8), (0, u "java/lang/Long"), (7, .class_ 18), (1, u "java/lang/Long$LongCache"), (0, u "$assertionsDisabled"), (0, u "Z"), (8, u "archivedCache"), (0, u "[Ljava/lang/Long;"), (7, u "cache")] 24

def k12m0 : Method := { name := "<init>", desc := "()V", sig := { parameters := [], returnType := none }, accessFlags := 2, code := none }
/-- java/lang/Long$LongCache -/
def k12 : Class := { plain "java/lang/Long$LongCache" (some 0) with
  accessFlags := 48
  interfaces := #[]
  cf := some (fileOf pool12 16 #[.nestHost 7] #[{ accessFlags := 2, nameIndex := 5, descriptorIndex := 6, attributes := #[] }] 48 2 #[] #[{ accessFlags := 24, nameIndex := 38, descriptorIndex := 30, attributes := #[] }, { accessFlags := 8, nameIndex := 29, descriptorIndex := 30, attributes := #[] }, { accessFlags := 4120, nameIndex := 19, descriptorIndex := 20, attributes := #[] }])
  fields := #[{ name := "cache", type := (.array (.object "java/lang/Long")), accessFlags := 24, slot := 0, constantValue := 0 }, { name := "archivedCache", type := (.array (.object "java/lang/Long")), accessFlags := 8, slot := 1, constantValue := 0 }, { name := "$assertionsDisabled", type := .boolean, accessFlags := 4120, slot := 2, constantValue := 0 }]
  methods := #[k12m0]
  instanceTypes := #[]
  staticTypes := #[(.array (.object "java/lang/Long")), (.array (.object "java/lang/Long")), .boolean]
  resolved := Array.replicate 63 none
  statics := some 1 }

def pool13 : Array CpInfo := pool [(1, u "java/lang/Cloneable"), (0, .class_ 1), (0, u "java/lang/Object"), (0, .class_ 3)] 3

/-- java/lang/Cloneable -/
def k13 : Class := { plain "java/lang/Cloneable" (some 0) with
  accessFlags := 1537
  interfaces := #[]
  cf := some (fileOf pool13 2 #[] #[] 1537 4 #[] #[])
  fields := #[]
  methods := #[]
  instanceTypes := #[]
  staticTypes := #[]
  resolved := Array.replicate 8 none
  statics := none }

/-- the primitive byte -/
def k14 : Class := { plain "byte" none with kind := .primitive 'B', accessFlags := 0x411 }
/-- [B -/
def k15 : Class := { plain "[B" (some 0) with kind := .array 14 .byte, interfaces := #[13, 4], accessFlags := 1041 }

/-- the primitive int -/
def k16 : Class := { plain "int" none with kind := .primitive 'I', accessFlags := 0x411 }
/-- [I -/
def k17 : Class := { plain "[I" (some 0) with kind := .array 16 .int, interfaces := #[13, 4], accessFlags := 1041 }

/-- [Ljava/lang/Long; -/
def k18 : Class := { plain "[Ljava/lang/Long;" (some 0) with kind := .array 11 (.object "java/lang/Long"), interfaces := #[13, 4], accessFlags := 1041 }

def heap : Heap := #[{ cls := 6, slots := #[.ref 259, .ref 260, .null], vm := .statics 6 },
  { cls := 12, slots := #[.ref 2, .null, .int 0], vm := .statics 12 },
  { cls := 18, slots := #[.ref 3, .ref 4, .ref 5, .ref 6, .ref 7, .ref 8, .ref 9, .ref 10, .ref 11, .ref 12, .ref 13, .ref 14, .ref 15, .ref 16, .ref 17, .ref 18, .ref 19, .ref 20, .ref 21, .ref 22, .ref 23, .ref 24, .ref 25, .ref 26, .ref 27, .ref 28, .ref 29, .ref 30, .ref 31, .ref 32, .ref 33, .ref 34, .ref 35, .ref 36, .ref 37, .ref 38, .ref 39, .ref 40, .ref 41, .ref 42, .ref 43, .ref 44, .ref 45, .ref 46, .ref 47, .ref 48, .ref 49, .ref 50, .ref 51, .ref 52, .ref 53, .ref 54, .ref 55, .ref 56, .ref 57, .ref 58, .ref 59, .ref 60, .ref 61, .ref 62, .ref 63, .ref 64, .ref 65, .ref 66, .ref 67, .ref 68, .ref 69, .ref 70, .ref 71, .ref 72, .ref 73, .ref 74, .ref 75, .ref 76, .ref 77, .ref 78, .ref 79, .ref 80, .ref 81, .ref 82, .ref 83, .ref 84, .ref 85, .ref 86, .ref 87, .ref 88, .ref 89, .ref 90, .ref 91, .ref 92, .ref 93, .ref 94, .ref 95, .ref 96, .ref 97, .ref 98, .ref 99, .ref 100, .ref 101, .ref 102, .ref 103, .ref 104, .ref 105, .ref 106, .ref 107, .ref 108, .ref 109, .ref 110, .ref 111, .ref 112, .ref 113, .ref 114, .ref 115, .ref 116, .ref 117, .ref 118, .ref 119, .ref 120, .ref 121, .ref 122, .ref 123, .ref 124, .ref 125, .ref 126, .ref 127, .ref 128, .ref 129, .ref 130, .ref 131, .ref 132, .ref 133, .ref 134, .ref 135, .ref 136, .ref 137, .ref 138, .ref 139, .ref 140, .ref 141, .ref 142, .ref 143, .ref 144, .ref 145, .ref 146, .ref 147, .ref 148, .ref 149, .ref 150, .ref 151, .ref 152, .ref 153, .ref 154, .ref 155, .ref 156, .ref 157, .ref 158, .ref 159, .ref 160, .ref 161, .ref 162, .ref 163, .ref 164, .ref 165, .ref 166, .ref 167, .ref 168, .ref 169, .ref 170, .ref 171, .ref 172, .ref 173, .ref 174, .ref 175, .ref 176, .ref 177, .ref 178, .ref 179, .ref 180, .ref 181, .ref 182, .ref 183, .ref 184, .ref 185, .ref 186, .ref 187, .ref 188, .ref 189, .ref 190, .ref 191, .ref 192, .ref 193, .ref 194, .ref 195, .ref 196, .ref 197, .ref 198, .ref 199, .ref 200, .ref 201, .ref 202, .ref 203, .ref 204, .ref 205, .ref 206, .ref 207, .ref 208, .ref 209, .ref 210, .ref 211, .ref 212, .ref 213, .ref 214, .ref 215, .ref 216, .ref 217, .ref 218, .ref 219, .ref 220, .ref 221, .ref 222, .ref 223, .ref 224, .ref 225, .ref 226, .ref 227, .ref 228, .ref 229, .ref 230, .ref 231, .ref 232, .ref 233, .ref 234, .ref 235, .ref 236, .ref 237, .ref 238, .ref 239, .ref 240, .ref 241, .ref 242, .ref 243, .ref 244, .ref 245, .ref 246, .ref 247, .ref 248, .ref 249, .ref 250, .ref 251, .ref 252, .ref 253, .ref 254, .ref 255, .ref 256, .ref 257, .ref 258], vm := .none },
  { cls := 11, slots := #[.long (-128)], vm := .none },
  { cls := 11, slots := #[.long (-127)], vm := .none },
  { cls := 11, slots := #[.long (-126)], vm := .none },
  { cls := 11, slots := #[.long (-125)], vm := .none },
  { cls := 11, slots := #[.long (-124)], vm := .none },
  { cls := 11, slots := #[.long (-123)], vm := .none },
  { cls := 11, slots := #[.long (-122)], vm := .none },
  { cls := 11, slots := #[.long (-121)], vm := .none },
  { cls := 11, slots := #[.long (-120)], vm := .none },
  { cls := 11, slots := #[.long (-119)], vm := .none },
  { cls := 11, slots := #[.long (-118)], vm := .none },
  { cls := 11, slots := #[.long (-117)], vm := .none },
  { cls := 11, slots := #[.long (-116)], vm := .none },
  { cls := 11, slots := #[.long (-115)], vm := .none },
  { cls := 11, slots := #[.long (-114)], vm := .none },
  { cls := 11, slots := #[.long (-113)], vm := .none },
  { cls := 11, slots := #[.long (-112)], vm := .none },
  { cls := 11, slots := #[.long (-111)], vm := .none },
  { cls := 11, slots := #[.long (-110)], vm := .none },
  { cls := 11, slots := #[.long (-109)], vm := .none },
  { cls := 11, slots := #[.long (-108)], vm := .none },
  { cls := 11, slots := #[.long (-107)], vm := .none },
  { cls := 11, slots := #[.long (-106)], vm := .none },
  { cls := 11, slots := #[.long (-105)], vm := .none },
  { cls := 11, slots := #[.long (-104)], vm := .none },
  { cls := 11, slots := #[.long (-103)], vm := .none },
  { cls := 11, slots := #[.long (-102)], vm := .none },
  { cls := 11, slots := #[.long (-101)], vm := .none },
  { cls := 11, slots := #[.long (-100)], vm := .none },
  { cls := 11, slots := #[.long (-99)], vm := .none },
  { cls := 11, slots := #[.long (-98)], vm := .none },
  { cls := 11, slots := #[.long (-97)], vm := .none },
  { cls := 11, slots := #[.long (-96)], vm := .none },
  { cls := 11, slots := #[.long (-95)], vm := .none },
  { cls := 11, slots := #[.long (-94)], vm := .none },
  { cls := 11, slots := #[.long (-93)], vm := .none },
  { cls := 11, slots := #[.long (-92)], vm := .none },
  { cls := 11, slots := #[.long (-91)], vm := .none },
  { cls := 11, slots := #[.long (-90)], vm := .none },
  { cls := 11, slots := #[.long (-89)], vm := .none },
  { cls := 11, slots := #[.long (-88)], vm := .none },
  { cls := 11, slots := #[.long (-87)], vm := .none },
  { cls := 11, slots := #[.long (-86)], vm := .none },
  { cls := 11, slots := #[.long (-85)], vm := .none },
  { cls := 11, slots := #[.long (-84)], vm := .none },
  { cls := 11, slots := #[.long (-83)], vm := .none },
  { cls := 11, slots := #[.long (-82)], vm := .none },
  { cls := 11, slots := #[.long (-81)], vm := .none },
  { cls := 11, slots := #[.long (-80)], vm := .none },
  { cls := 11, slots := #[.long (-79)], vm := .none },
  { cls := 11, slots := #[.long (-78)], vm := .none },
  { cls := 11, slots := #[.long (-77)], vm := .none },
  { cls := 11, slots := #[.long (-76)], vm := .none },
  { cls := 11, slots := #[.long (-75)], vm := .none },
  { cls := 11, slots := #[.long (-74)], vm := .none },
  { cls := 11, slots := #[.long (-73)], vm := .none },
  { cls := 11, slots := #[.long (-72)], vm := .none },
  { cls := 11, slots := #[.long (-71)], vm := .none },
  { cls := 11, slots := #[.long (-70)], vm := .none },
  { cls := 11, slots := #[.long (-69)], vm := .none },
  { cls := 11, slots := #[.long (-68)], vm := .none },
  { cls := 11, slots := #[.long (-67)], vm := .none },
  { cls := 11, slots := #[.long (-66)], vm := .none },
  { cls := 11, slots := #[.long (-65)], vm := .none },
  { cls := 11, slots := #[.long (-64)], vm := .none },
  { cls := 11, slots := #[.long (-63)], vm := .none },
  { cls := 11, slots := #[.long (-62)], vm := .none },
  { cls := 11, slots := #[.long (-61)], vm := .none },
  { cls := 11, slots := #[.long (-60)], vm := .none },
  { cls := 11, slots := #[.long (-59)], vm := .none },
  { cls := 11, slots := #[.long (-58)], vm := .none },
  { cls := 11, slots := #[.long (-57)], vm := .none },
  { cls := 11, slots := #[.long (-56)], vm := .none },
  { cls := 11, slots := #[.long (-55)], vm := .none },
  { cls := 11, slots := #[.long (-54)], vm := .none },
  { cls := 11, slots := #[.long (-53)], vm := .none },
  { cls := 11, slots := #[.long (-52)], vm := .none },
  { cls := 11, slots := #[.long (-51)], vm := .none },
  { cls := 11, slots := #[.long (-50)], vm := .none },
  { cls := 11, slots := #[.long (-49)], vm := .none },
  { cls := 11, slots := #[.long (-48)], vm := .none },
  { cls := 11, slots := #[.long (-47)], vm := .none },
  { cls := 11, slots := #[.long (-46)], vm := .none },
  { cls := 11, slots := #[.long (-45)], vm := .none },
  { cls := 11, slots := #[.long (-44)], vm := .none },
  { cls := 11, slots := #[.long (-43)], vm := .none },
  { cls := 11, slots := #[.long (-42)], vm := .none },
  { cls := 11, slots := #[.long (-41)], vm := .none },
  { cls := 11, slots := #[.long (-40)], vm := .none },
  { cls := 11, slots := #[.long (-39)], vm := .none },
  { cls := 11, slots := #[.long (-38)], vm := .none },
  { cls := 11, slots := #[.long (-37)], vm := .none },
  { cls := 11, slots := #[.long (-36)], vm := .none },
  { cls := 11, slots := #[.long (-35)], vm := .none },
  { cls := 11, slots := #[.long (-34)], vm := .none },
  { cls := 11, slots := #[.long (-33)], vm := .none },
  { cls := 11, slots := #[.long (-32)], vm := .none },
  { cls := 11, slots := #[.long (-31)], vm := .none },
  { cls := 11, slots := #[.long (-30)], vm := .none },
  { cls := 11, slots := #[.long (-29)], vm := .none },
  { cls := 11, slots := #[.long (-28)], vm := .none },
  { cls := 11, slots := #[.long (-27)], vm := .none },
  { cls := 11, slots := #[.long (-26)], vm := .none },
  { cls := 11, slots := #[.long (-25)], vm := .none },
  { cls := 11, slots := #[.long (-24)], vm := .none },
  { cls := 11, slots := #[.long (-23)], vm := .none },
  { cls := 11, slots := #[.long (-22)], vm := .none },
  { cls := 11, slots := #[.long (-21)], vm := .none },
  { cls := 11, slots := #[.long (-20)], vm := .none },
  { cls := 11, slots := #[.long (-19)], vm := .none },
  { cls := 11, slots := #[.long (-18)], vm := .none },
  { cls := 11, slots := #[.long (-17)], vm := .none },
  { cls := 11, slots := #[.long (-16)], vm := .none },
  { cls := 11, slots := #[.long (-15)], vm := .none },
  { cls := 11, slots := #[.long (-14)], vm := .none },
  { cls := 11, slots := #[.long (-13)], vm := .none },
  { cls := 11, slots := #[.long (-12)], vm := .none },
  { cls := 11, slots := #[.long (-11)], vm := .none },
  { cls := 11, slots := #[.long (-10)], vm := .none },
  { cls := 11, slots := #[.long (-9)], vm := .none },
  { cls := 11, slots := #[.long (-8)], vm := .none },
  { cls := 11, slots := #[.long (-7)], vm := .none },
  { cls := 11, slots := #[.long (-6)], vm := .none },
  { cls := 11, slots := #[.long (-5)], vm := .none },
  { cls := 11, slots := #[.long (-4)], vm := .none },
  { cls := 11, slots := #[.long (-3)], vm := .none },
  { cls := 11, slots := #[.long (-2)], vm := .none },
  { cls := 11, slots := #[.long (-1)], vm := .none },
  { cls := 11, slots := #[.long 0], vm := .none },
  { cls := 11, slots := #[.long 1], vm := .none },
  { cls := 11, slots := #[.long 2], vm := .none },
  { cls := 11, slots := #[.long 3], vm := .none },
  { cls := 11, slots := #[.long 4], vm := .none },
  { cls := 11, slots := #[.long 5], vm := .none },
  { cls := 11, slots := #[.long 6], vm := .none },
  { cls := 11, slots := #[.long 7], vm := .none },
  { cls := 11, slots := #[.long 8], vm := .none },
  { cls := 11, slots := #[.long 9], vm := .none },
  { cls := 11, slots := #[.long 10], vm := .none },
  { cls := 11, slots := #[.long 11], vm := .none },
  { cls := 11, slots := #[.long 12], vm := .none },
  { cls := 11, slots := #[.long 13], vm := .none },
  { cls := 11, slots := #[.long 14], vm := .none },
  { cls := 11, slots := #[.long 15], vm := .none },
  { cls := 11, slots := #[.long 16], vm := .none },
  { cls := 11, slots := #[.long 17], vm := .none },
  { cls := 11, slots := #[.long 18], vm := .none },
  { cls := 11, slots := #[.long 19], vm := .none },
  { cls := 11, slots := #[.long 20], vm := .none },
  { cls := 11, slots := #[.long 21], vm := .none },
  { cls := 11, slots := #[.long 22], vm := .none },
  { cls := 11, slots := #[.long 23], vm := .none },
  { cls := 11, slots := #[.long 24], vm := .none },
  { cls := 11, slots := #[.long 25], vm := .none },
  { cls := 11, slots := #[.long 26], vm := .none },
  { cls := 11, slots := #[.long 27], vm := .none },
  { cls := 11, slots := #[.long 28], vm := .none },
  { cls := 11, slots := #[.long 29], vm := .none },
  { cls := 11, slots := #[.long 30], vm := .none },
  { cls := 11, slots := #[.long 31], vm := .none },
  { cls := 11, slots := #[.long 32], vm := .none },
  { cls := 11, slots := #[.long 33], vm := .none },
  { cls := 11, slots := #[.long 34], vm := .none },
  { cls := 11, slots := #[.long 35], vm := .none },
  { cls := 11, slots := #[.long 36], vm := .none },
  { cls := 11, slots := #[.long 37], vm := .none },
  { cls := 11, slots := #[.long 38], vm := .none },
  { cls := 11, slots := #[.long 39], vm := .none },
  { cls := 11, slots := #[.long 40], vm := .none },
  { cls := 11, slots := #[.long 41], vm := .none },
  { cls := 11, slots := #[.long 42], vm := .none },
  { cls := 11, slots := #[.long 43], vm := .none },
  { cls := 11, slots := #[.long 44], vm := .none },
  { cls := 11, slots := #[.long 45], vm := .none },
  { cls := 11, slots := #[.long 46], vm := .none },
  { cls := 11, slots := #[.long 47], vm := .none },
  { cls := 11, slots := #[.long 48], vm := .none },
  { cls := 11, slots := #[.long 49], vm := .none },
  { cls := 11, slots := #[.long 50], vm := .none },
  { cls := 11, slots := #[.long 51], vm := .none },
  { cls := 11, slots := #[.long 52], vm := .none },
  { cls := 11, slots := #[.long 53], vm := .none },
  { cls := 11, slots := #[.long 54], vm := .none },
  { cls := 11, slots := #[.long 55], vm := .none },
  { cls := 11, slots := #[.long 56], vm := .none },
  { cls := 11, slots := #[.long 57], vm := .none },
  { cls := 11, slots := #[.long 58], vm := .none },
  { cls := 11, slots := #[.long 59], vm := .none },
  { cls := 11, slots := #[.long 60], vm := .none },
  { cls := 11, slots := #[.long 61], vm := .none },
  { cls := 11, slots := #[.long 62], vm := .none },
  { cls := 11, slots := #[.long 63], vm := .none },
  { cls := 11, slots := #[.long 64], vm := .none },
  { cls := 11, slots := #[.long 65], vm := .none },
  { cls := 11, slots := #[.long 66], vm := .none },
  { cls := 11, slots := #[.long 67], vm := .none },
  { cls := 11, slots := #[.long 68], vm := .none },
  { cls := 11, slots := #[.long 69], vm := .none },
  { cls := 11, slots := #[.long 70], vm := .none },
  { cls := 11, slots := #[.long 71], vm := .none },
  { cls := 11, slots := #[.long 72], vm := .none },
  { cls := 11, slots := #[.long 73], vm := .none },
  { cls := 11, slots := #[.long 74], vm := .none },
  { cls := 11, slots := #[.long 75], vm := .none },
  { cls := 11, slots := #[.long 76], vm := .none },
  { cls := 11, slots := #[.long 77], vm := .none },
  { cls := 11, slots := #[.long 78], vm := .none },
  { cls := 11, slots := #[.long 79], vm := .none },
  { cls := 11, slots := #[.long 80], vm := .none },
  { cls := 11, slots := #[.long 81], vm := .none },
  { cls := 11, slots := #[.long 82], vm := .none },
  { cls := 11, slots := #[.long 83], vm := .none },
  { cls := 11, slots := #[.long 84], vm := .none },
  { cls := 11, slots := #[.long 85], vm := .none },
  { cls := 11, slots := #[.long 86], vm := .none },
  { cls := 11, slots := #[.long 87], vm := .none },
  { cls := 11, slots := #[.long 88], vm := .none },
  { cls := 11, slots := #[.long 89], vm := .none },
  { cls := 11, slots := #[.long 90], vm := .none },
  { cls := 11, slots := #[.long 91], vm := .none },
  { cls := 11, slots := #[.long 92], vm := .none },
  { cls := 11, slots := #[.long 93], vm := .none },
  { cls := 11, slots := #[.long 94], vm := .none },
  { cls := 11, slots := #[.long 95], vm := .none },
  { cls := 11, slots := #[.long 96], vm := .none },
  { cls := 11, slots := #[.long 97], vm := .none },
  { cls := 11, slots := #[.long 98], vm := .none },
  { cls := 11, slots := #[.long 99], vm := .none },
  { cls := 11, slots := #[.long 100], vm := .none },
  { cls := 11, slots := #[.long 101], vm := .none },
  { cls := 11, slots := #[.long 102], vm := .none },
  { cls := 11, slots := #[.long 103], vm := .none },
  { cls := 11, slots := #[.long 104], vm := .none },
  { cls := 11, slots := #[.long 105], vm := .none },
  { cls := 11, slots := #[.long 106], vm := .none },
  { cls := 11, slots := #[.long 107], vm := .none },
  { cls := 11, slots := #[.long 108], vm := .none },
  { cls := 11, slots := #[.long 109], vm := .none },
  { cls := 11, slots := #[.long 110], vm := .none },
  { cls := 11, slots := #[.long 111], vm := .none },
  { cls := 11, slots := #[.long 112], vm := .none },
  { cls := 11, slots := #[.long 113], vm := .none },
  { cls := 11, slots := #[.long 114], vm := .none },
  { cls := 11, slots := #[.long 115], vm := .none },
  { cls := 11, slots := #[.long 116], vm := .none },
  { cls := 11, slots := #[.long 117], vm := .none },
  { cls := 11, slots := #[.long 118], vm := .none },
  { cls := 11, slots := #[.long 119], vm := .none },
  { cls := 11, slots := #[.long 120], vm := .none },
  { cls := 11, slots := #[.long 121], vm := .none },
  { cls := 11, slots := #[.long 122], vm := .none },
  { cls := 11, slots := #[.long 123], vm := .none },
  { cls := 11, slots := #[.long 124], vm := .none },
  { cls := 11, slots := #[.long 125], vm := .none },
  { cls := 11, slots := #[.long 126], vm := .none },
  { cls := 11, slots := #[.long 127], vm := .none },
  { cls := 6, slots := #[.null, .int 0, .int 0], vm := .none },
  { cls := 6, slots := #[.null, .int 1, .int 0], vm := .none }]
def classes : Array Class := #[k0, k1, k2, k3, k4, k5, k6, k7, k8, k9, k10, k11, k12, k13, k14, k15, k16, k17, k18]
def interned : List (Array UInt16 × Addr) := []
def slotsUsed : Nat := 524
def theMethod : MethodId := ⟨1, 2⟩
def args0 : Array Value := #[.int 4, .long 6, .int 7, .long 8, .int 3]
def aboutOver (below : List Frame) : State where
  vm := { classes := classes, interned := interned.toArray }
  heap := heap
  slotsUsed := slotsUsed
  threads := #[{ frames := .invoking theMethod args0 :: below }]
def below0 : List Frame := [.native { method := ⟨0, 0⟩, args := #[] }]
def about1 : State := aboutOver below0
def p0 : Program := .bare "" "" ""
def e0 : Env := launch0.env 0 0 0
theorem w_frames : about1.frames = Frame.invoking theMethod args0 :: below0 := rfl
set_option maxRecDepth 65536 in
theorem w_args : argsFit about1.vm theMethod args0 = true := by decide +kernel
set_option maxRecDepth 65536 in
theorem w_heap : heapFits about1 = true := by decide +kernel
set_option maxRecDepth 65536 in
theorem w_runnable : about1.curStatus? = some .runnable := by decide +kernel
set_option maxRecDepth 65536 in
theorem w_alone : about1.alone = true := by decide +kernel
set_option maxRecDepth 65536 in
theorem w_named : about1.methodNamed? x = some theMethod := by decide +kernel
set_option maxRecDepth 65536 in
theorem w_hears : about1.hears theMethod below0 = true := by decide +kernel
set_option maxRecDepth 65536 in
theorem w_ripe : about1.ripe theMethod args0 below0 = true := by decide +kernel
theorem w_running : about1.status = .running := rfl
set_option maxRecDepth 65536 in
theorem w_room : about1.hasRoom e0.platform room_1 = true :=
  launch0.hasRoom_least _ room_1 (by decide +kernel) (by decide +kernel) (by decide +kernel) (by decide +kernel) (by decide +kernel) (by decide +kernel)
theorem allAtoms_all (ts : List Jvm.Cond) (a : Array Jvm.Value) (st : Jvm.State) : (allAtoms ts).before a st = ts.all (fun c => c.before a st) := by
  induction ts with
  | nil => rfl
  | cons c t ih =>
    show (Jvm.Cond.and c (allAtoms t)).before a st = _
    rw [Jvm.Cond.before_and, ih, List.all_cons]
def words1 : List Jvm.Cond := Jvm.Cond.code x code maxLocals ret :: tables_1
/-- a 'code' word, met by the world's own term for the bytes: nothing is compared byte by byte -/
theorem code_word {y : MethodName} {bytes : ByteArray} {mx : Nat} {rt : Option FieldType} {a : Array Value} {s : State} {m : MethodId} {meth : Method} {c : Code} (h1 : s.methodNamed? y = some m) (h2 : s.vm.method? m = some meth) (h3 : meth.code = some c) (h4 : c.code = bytes)
    (h5 : (c.maxLocals == mx && c.exceptionTable.isEmpty && decide (c.maxStack ≤ mostOperands) && decide (meth.sig.returnType = rt) && !meth.locks && decide (parseMethodDescriptor y.desc = some meth.sig)) = true) : (Jvm.Cond.code y bytes mx rt).before a s = true := by
  simp only [Bool.and_eq_true, beq_iff_eq, Bool.not_eq_true', decide_eq_true_eq] at h5
  obtain ⟨⟨⟨⟨⟨g1, g2⟩, g3⟩, g4⟩, g5⟩, g6⟩ := h5
  simp [Cond.before, Cond.holds, Cond.value, h1, h2, h3, h4, g1, g2, g3, g4, g5, g6]
def isCode : Jvm.Cond → Bool
  | .code _ _ _ _ => true
  | _ => false
theorem all_split {L : List Jvm.Cond} {P : Jvm.Cond → Bool} (h1 : L.all (fun c => isCode c || P c) = true) (h2 : ∀ c ∈ L.filter isCode, P c = true) : L.all P = true := by
  refine List.all_eq_true.mpr fun c hc => ?_
  have h := List.all_eq_true.mp h1 c hc
  rcases Bool.eq_false_or_eq_true (isCode c) with hi | hi
  · exact h2 c (List.mem_filter.mpr ⟨hc, hi⟩)
  · simpa [hi] using h
set_option maxRecDepth 65536 in
theorem w_c0 : (Jvm.Cond.code x code maxLocals ret).before args0 about1 = true := code_word (m := ⟨1, 2⟩) (meth := k1m2) (c := k1c2) (by decide +kernel) rfl rfl rfl (by decide +kernel)
set_option maxRecDepth 65536 in
theorem w_c1 : (Jvm.Cond.code ({ cls := "com/example/lessor/lessor/namespace/BindingEqualsPinLaw", name := "typeOf", desc := "(I)Lcom/example/lessor/lessor/namespace/FileType;" } : Jvm.MethodName) method_2_code (1 : Nat) (Option.some (Jvm.ClassFile.FieldType.object "com/example/lessor/lessor/namespace/FileType"))).before args0 about1 = true := code_word (m := ⟨1, 1⟩) (meth := k1m1) (c := k1c1) (by decide +kernel) rfl rfl rfl (by decide +kernel)
set_option maxRecDepth 65536 in
theorem w_c2 : (Jvm.Cond.code ({ cls := "com/example/lessor/lessor/namespace/Binding", name := "<init>", desc := "(Lcom/example/lessor/lessor/namespace/FileType;J)V" } : Jvm.MethodName) prog_13_method_1_code (4 : Nat) (Option.none : Option Jvm.ClassFile.FieldType)).before args0 about1 = true := code_word (m := ⟨7, 0⟩) (meth := k7m0) (c := k7c0) (by decide +kernel) rfl rfl rfl (by decide +kernel)
set_option maxRecDepth 65536 in
theorem w_c3 : (Jvm.Cond.code ({ cls := "java/lang/Object", name := "<init>", desc := "()V" } : Jvm.MethodName) object_method_1_code (1 : Nat) (Option.none : Option Jvm.ClassFile.FieldType)).before args0 about1 = true := code_word (m := ⟨0, 0⟩) (meth := k0m0) (c := k0c0) (by decide +kernel) rfl rfl rfl (by decide +kernel)
set_option maxRecDepth 65536 in
theorem w_c4 : (Jvm.Cond.code ({ cls := "java/util/Objects", name := "requireNonNull", desc := "(Ljava/lang/Object;)Ljava/lang/Object;" } : Jvm.MethodName) jdk_31_method_10_code (1 : Nat) (Option.some (Jvm.ClassFile.FieldType.object "java/lang/Object"))).before args0 about1 = true := code_word (m := ⟨8, 1⟩) (meth := k8m1) (c := k8c1) (by decide +kernel) rfl rfl rfl (by decide +kernel)
set_option maxRecDepth 65536 in
theorem w_c5 : (Jvm.Cond.code ({ cls := "com/example/lessor/lessor/namespace/Binding", name := "equals", desc := "(Ljava/lang/Object;)Z" } : Jvm.MethodName) prog_13_method_5_code (3 : Nat) (Option.some Jvm.ClassFile.FieldType.boolean)).before args0 about1 = true := code_word (m := ⟨7, 1⟩) (meth := k7m1) (c := k7c1) (by decide +kernel) rfl rfl rfl (by decide +kernel)
set_option maxRecDepth 65536 in
theorem w_c6 : (Jvm.Cond.code ({ cls := "java/lang/Long", name := "valueOf", desc := "(J)Ljava/lang/Long;" } : Jvm.MethodName) jdk_35_method_24_code (3 : Nat) (Option.some (Jvm.ClassFile.FieldType.object "java/lang/Long"))).before args0 about1 = true := code_word (m := ⟨11, 0⟩) (meth := k11m0) (c := k11c0) (by decide +kernel) rfl rfl rfl (by decide +kernel)
set_option maxRecDepth 65536 in
theorem w_c7 : (Jvm.Cond.code ({ cls := "java/lang/Long", name := "<init>", desc := "(J)V" } : Jvm.MethodName) jdk_35_method_26_code (3 : Nat) (Option.none : Option Jvm.ClassFile.FieldType)).before args0 about1 = true := code_word (m := ⟨11, 1⟩) (meth := k11m1) (c := k11c1) (by decide +kernel) rfl rfl rfl (by decide +kernel)
set_option maxRecDepth 65536 in
theorem w_c8 : (Jvm.Cond.code ({ cls := "java/lang/Number", name := "<init>", desc := "()V" } : Jvm.MethodName) jdk_18_method_1_code (1 : Nat) (Option.none : Option Jvm.ClassFile.FieldType)).before args0 about1 = true := code_word (m := ⟨9, 0⟩) (meth := k9m0) (c := k9c0) (by decide +kernel) rfl rfl rfl (by decide +kernel)
def codes1 : List Jvm.Cond := [Jvm.Cond.code x code maxLocals ret, Jvm.Cond.code ({ cls := "com/example/lessor/lessor/namespace/BindingEqualsPinLaw", name := "typeOf", desc := "(I)Lcom/example/lessor/lessor/namespace/FileType;" } : Jvm.MethodName) method_2_code (1 : Nat) (Option.some (Jvm.ClassFile.FieldType.object "com/example/lessor/lessor/namespace/FileType")), Jvm.Cond.code ({ cls := "com/example/lessor/lessor/namespace/Binding", name := "<init>", desc := "(Lcom/example/lessor/lessor/namespace/FileType;J)V" } : Jvm.MethodName) prog_13_method_1_code (4 : Nat) (Option.none : Option Jvm.ClassFile.FieldType), Jvm.Cond.code ({ cls := "java/lang/Object", name := "<init>", desc := "()V" } : Jvm.MethodName) object_method_1_code (1 : Nat) (Option.none : Option Jvm.ClassFile.FieldType), Jvm.Cond.code ({ cls := "java/util/Objects", name := "requireNonNull", desc := "(Ljava/lang/Object;)Ljava/lang/Object;" } : Jvm.MethodName) jdk_31_method_10_code (1 : Nat) (Option.some (Jvm.ClassFile.FieldType.object "java/lang/Object")), Jvm.Cond.code ({ cls := "com/example/lessor/lessor/namespace/Binding", name := "equals", desc := "(Ljava/lang/Object;)Z" } : Jvm.MethodName) prog_13_method_5_code (3 : Nat) (Option.some Jvm.ClassFile.FieldType.boolean), Jvm.Cond.code ({ cls := "java/lang/Long", name := "valueOf", desc := "(J)Ljava/lang/Long;" } : Jvm.MethodName) jdk_35_method_24_code (3 : Nat) (Option.some (Jvm.ClassFile.FieldType.object "java/lang/Long")), Jvm.Cond.code ({ cls := "java/lang/Long", name := "<init>", desc := "(J)V" } : Jvm.MethodName) jdk_35_method_26_code (3 : Nat) (Option.none : Option Jvm.ClassFile.FieldType), Jvm.Cond.code ({ cls := "java/lang/Number", name := "<init>", desc := "()V" } : Jvm.MethodName) jdk_18_method_1_code (1 : Nat) (Option.none : Option Jvm.ClassFile.FieldType)]
set_option maxRecDepth 65536 in
theorem codes_eq : words1.filter isCode = codes1 := rfl
theorem w_codes : ∀ c ∈ words1.filter isCode, c.before args0 about1 = true := by
  rw [codes_eq]
  intro c hc
  simp only [codes1, List.mem_cons, List.not_mem_nil, or_false] at hc
  rcases hc with rfl | rfl | rfl | rfl | rfl | rfl | rfl | rfl | rfl
  · exact w_c0
  · exact w_c1
  · exact w_c2
  · exact w_c3
  · exact w_c4
  · exact w_c5
  · exact w_c6
  · exact w_c7
  · exact w_c8
set_option maxRecDepth 65536 in
theorem w_t1 : (words1.take 24).all (fun c => isCode c || c.before args0 about1) = true := by decide +kernel
set_option maxRecDepth 65536 in
theorem w_t2 : ((words1.drop 24).take 24).all (fun c => isCode c || c.before args0 about1) = true := by decide +kernel
set_option maxRecDepth 65536 in
theorem w_t3 : ((words1.drop 24).drop 24).all (fun c => isCode c || c.before args0 about1) = true := by decide +kernel
theorem w_tables : (allAtoms (Jvm.Cond.code x code maxLocals ret :: tables_1)).before args0 about1 = true := by
  rw [allAtoms_all]
  show words1.all (fun c => c.before args0 about1) = true
  refine all_split ?_ w_codes
  rw [← List.take_append_drop 24 words1, List.all_append, w_t1, ← List.take_append_drop 24 (words1.drop 24), List.all_append, w_t2, w_t3]
  rfl
set_option maxRecDepth 65536 in
theorem w_rest : rest_1_c.before args0 about1 = true := by decide +kernel
set_option maxRecDepth 65536 in
theorem w_case : (Jvm.Cond.and given_1 narrow_1).before args0 about1 = true := by decide +kernel
theorem w_applies : (headSpec (Jvm.Cond.code x code maxLocals ret :: tables_1) room_1).applies x e0.platform about1 = true :=
  (Spec.applies_iff w_frames).mpr ⟨w_running, w_runnable, w_alone, w_named, w_hears, w_ripe, w_room, w_tables⟩
theorem atStart : AtStart classFile x code maxLocals ret World_1 tables_1 room_1 Calls_1 rest_1 Pre_1 launch0 p0 e0 about1 theMethod args0 below0 :=
  ⟨lists_1, trivial, launch0.admits_env _ _ _, launch0.least_env, fairChoices_fair.cas, fairChoices_fair.clock, w_frames, w_args, w_heap, w_applies, trivial, w_rest, w_case⟩
end start1
theorem witness_1 : WitnessClaimed_1 := ⟨start1.p0, start1.e0, start1.about1, start1.theMethod, start1.args0, start1.below0, start1.atStart⟩
end Jvm.Pilot.@@N@@
