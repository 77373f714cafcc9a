import JvmDerived
import JvmDerived.Pilot.@@N@@Statement
import JvmDerived.Pilot.@@N@@Code
set_option linter.unusedVariables false
set_option linter.unusedSimpArgs false
namespace Jvm.RoadKit
open Sem ClassFile Op Lib Jvm.Stand Jvm.Free Jvm.LawKit
/-- the walk that stands at S comes to an end of which P holds -/
def own_Goes (tb : Tables) (e : Env) (below : List Frame) (P : State → Outcome → Prop) (S : State) : Prop := ∃ t o, Steps tb e below S t ∧ P t o
theorem own_Goes.of {tb : Tables} {e : Env} {below : List Frame} {P : State → Outcome → Prop} {S : State} (k : own_Goes tb e below P S) : ∃ t o, Steps tb e below S t ∧ P t o := k
theorem own_Goes.nm {tb : Tables} {e : Env} {below : List Frame} {P : State → Outcome → Prop} {S : State} (k : ∀ P' : State → Outcome → Prop, (∀ t o, P t o → P' t o) → own_Goes tb e below P' S) : own_Goes tb e below P S := k P fun _ _ q => q
theorem own_Goes.st {tb : Tables} {e : Env} {below : List Frame} {P : State → Outcome → Prop} {S S' : State} (k : own_Goes tb e below P S') (h : ∀ t, Steps tb e below S' t → Steps tb e below S t) : own_Goes tb e below P S := by
  obtain ⟨t, o, h1, h2⟩ := k; exact ⟨t, o, h t h1, h2⟩
theorem own_Goes.tr {tb : Tables} {e : Env} {below : List Frame} {P : State → Outcome → Prop} {S S' : State} (h : Steps tb e below S S') (k : own_Goes tb e below P S') : own_Goes tb e below P S := by
  obtain ⟨t, o, h1, h2⟩ := k; exact ⟨t, o, h.trans h1, h2⟩
theorem own_Goes.fin {tb : Tables} {e : Env} {below : List Frame} {P : State → Outcome → Prop} {S : State} (t : State) (o : Outcome) (h : Steps tb e below S t) (k : P t o) : own_Goes tb e below P S := ⟨t, o, h, k⟩
end Jvm.RoadKit
namespace Jvm.Pilot.@@N@@
open Jvm Jvm.ClassFile Sem Op Lib Jvm.Free Jvm.Stand Jvm.LawKit Jvm.RoadKit Bundle Jvm.Pilot.@@N@@.Jvm.D
def own_bd (f : Int32) : Int32 := if (f &&& 1) = 0 then 0 else 1
theorem own_k0 : (0 : Int32).toInt = 0 := by decide
theorem own_k1 : (1 : Int32).toInt = 1 := by decide
theorem own_bd0 {f : Int32} (h : f.toInt % 2 = 0) : own_bd f = 0 := by
  rw [own_bd, if_pos]; apply Int32.toInt_inj.mp; rw [c_mask f 1 1 (by decide) (by decide), own_k0]; omega
theorem own_bd1 {f : Int32} (h : f.toInt % 2 = 1) : own_bd f = 1 := by
  rw [own_bd, if_neg]; intro q
  have q1 := congrArg Int32.toInt q; rw [c_mask f 1 1 (by decide) (by decide), own_k0] at q1; omega
theorem own_par (f : Int32) : (f - ((f >>> ((1 : Int32) &&& 31)) <<< ((1 : Int32) &&& 31))).toInt = f.toInt % 2 := by
  have a1 := c_ishr f 1 1 (by decide)
  have a2 := c_ishl (f >>> ((1 : Int32) &&& 31)) 1 1 (by decide)
  have a3 := c_isub f ((f >>> ((1 : Int32) &&& 31)) <<< ((1 : Int32) &&& 31))
  rw [a1] at a2
  have r := rng32 (f - ((f >>> ((1 : Int32) &&& 31)) <<< ((1 : Int32) &&& 31)))
  omega
theorem own_odd {f : Int32} (h : (f - ((f >>> ((1 : Int32) &&& 31)) <<< ((1 : Int32) &&& 31))) = 1) : f.toInt % 2 = 1 := by
  rw [← own_par, h]; decide
theorem own_even {f : Int32} (h : ¬ (f - ((f >>> ((1 : Int32) &&& 31)) <<< ((1 : Int32) &&& 31))) = 1) : f.toInt % 2 = 0 := by
  have q : f.toInt % 2 ≠ 1 := fun q => h (Int32.toInt_inj.mp (by rw [own_par, q, own_k1]))
  omega
theorem own_x (f : Int32) : (f ^^^ 1).toInt % 2 = (f.toInt + 1) % 2 := by have q := c_xor2 f 1; rw [own_k1] at q; exact q
theorem own_ef_rec (m : MethodId) (x0 : Addr) : entryFrame m #[(.ref x0)] 1 = mkF m 0 #[.val (.ref x0)] [] := by first | (simp [entryFrame, mkF, argsToLocals, Value.category]; done) | rfl
theorem own_pn_java_lang_Record : plainName "java/lang/Record" = true := by first | (simp [plainName, overriddenIn]; done) | decide +kernel
theorem own_d_jdk_30_method_1_0 : decode jdk_30_method_1_code 0 = .ok (.aload_n 0, 1) := by decide +kernel
theorem own_d_jdk_30_method_1_1 : decode jdk_30_method_1_code 1 = .ok (.invokespecial 1, 3) := by decide +kernel
theorem own_d_jdk_30_method_1_4 : decode jdk_30_method_1_code 4 = .ok (.return_, 1) := by decide +kernel
def Q_rec (Z : State) (a : Addr) (h0 : Heap) (n0 : Nat) (v : Option Value) (h : Heap) (L : List Loc) : Prop := v = none ∧ Fr n0 L ∧ h = h0
set_option maxRecDepth 65536 in
set_option maxHeartbeats 40000000 in
theorem rm_rec (l : Launch) (Z : State) (a0 : Array Value) (hw : ∀ d ∈ tables_1, d.before a0 Z = true) (ws : List Jvm.Cond) (a : Addr) (h0 : Heap) (n0 : Nat) (Z0 : n0 ≤ h0.size) :
    MetFree l (⟨"java/lang/Record", "<init>", "()V"⟩ : MethodName) (head1 (Jvm.Cond.code (⟨"java/lang/Record", "<init>", "()V"⟩ : MethodName) jdk_30_method_1_code 1 none :: ws) ({ frames := 1, cells := 0, slots := 0, locals := 12 } : Room)) (fun as_ U => as_ = #[(.ref a)] ∧ Z.Warmed39 U.vm ∧ U.heap = h0) (fun _ _ _ _ _ => True) (fun _ U o U' => ∃ v L, o = .returned v ∧ Q_rec Z a h0 n0 v U'.heap L ∧ FrameEnd U o U' L ({ frames := 1, cells := 0, slots := 0, locals := 12 } : Room).cells ({ frames := 1, cells := 0, slots := 0, locals := 12 } : Room).slots) := by
  refine MetFree.of_bodySF (plainFor_of_name own_pn_java_lang_Record) hisR ?_
  intro p e s m args below meth c s₁ Bd hml0 hP hK
  obtain ⟨rfl, hZ, hh⟩ := hP
  have hx := Bd.exec
  have hby := Bd.bytes
  have hml : c.maxLocals = 1 := hml0
  have hown : s.vm.findClass "java/lang/Record" = some m.cls := findClass_of_methodNamed Bd.named
  have hnm := (name_of_methodNamed Bd.named Bd.method).1
  have X0 : Stand p l e ({ frames := 1, cells := 0, slots := 0, locals := 12 } : Room) s m #[(.ref a)] below meth c s₁ [] 0 0 := Stand.of_body Bd
  have e0 : s₁.heap = h0 := by rw [← hh, Bd.state]; rfl
  have N0 := Fr.nil n0
  refine own_Goes.of ?_
  refine own_Goes.nm (fun P hPP => ?_)
  refine own_Goes.st ?_ (fun _ k => castTop (own_ef_rec m a) k)
  show own_Goes p.tables e below P (s₁.setTop (mkF m 0 #[.val (.ref a)] []))
  refine own_Goes.st ?_ (fun _ k => XS.aloadN X0.here hx rfl (hb hby own_d_jdk_30_method_1_0) rfl rfl k)
  show own_Goes p.tables e below P (s₁.setTop (mkF m 1 #[.val (.ref a)] [(.ref a)]))
  obtain ⟨T1, X1, e1, st1⟩ := initO X0 hx hZ hown (hw _ (List.mem_of_getElem? (i := 11) rfl)) (hw _ (List.mem_of_getElem? (i := 12) rfl)) (hw _ (List.mem_of_getElem? (i := 13) rfl)) e0 (g := (mkF m 1 #[.val (.ref a)] [(.ref a)])) rfl (by rw [hml]; rfl) rfl (hb hby own_d_jdk_30_method_1_1) (by decide) (W := 0) (by show 2 * 0 + _ ≤ _; exact Nat.le_of_eq rfl) (by decide)
  refine own_Goes.st ?_ st1
  show own_Goes p.tables e below P (T1.setTop (mkF m 4 #[.val (.ref a)] []))
  obtain ⟨fs, hr, hrun, hended, hW, hsame⟩ := X1.leave (v := none) (fun _ => rfl)
  exact own_Goes.fin _ _ (X1.returnOut hx Bd.returns (hb hby own_d_jdk_30_method_1_4) hr) (hPP _ _ ⟨hrun, hended, _, _, rfl, (by show Q_rec Z a h0 n0 _ T1.heap _; rw [e1]; exact ⟨rfl, N0, rfl⟩), ⟨_, rfl⟩, hW, hsame.mono (by decide) (by decide)⟩)
theorem own_ef_new (m : MethodId) (x0 : Addr) (x1 : Int32) (x2 : Int32) (x3 : UInt64) : entryFrame m #[(.ref x0), (.int x1), (.int x2), (.double x3)] 5 = mkF m 0 #[.val (.ref x0), .val (.int x1), .val (.int x2), .val (.double x3), .second] [] := by first | (simp [entryFrame, mkF, argsToLocals, Value.category]; done) | rfl
theorem own_pn_com_example_tempograph_tempograph_pcep_MetricObject : plainName "com/example/tempograph/tempograph/pcep/MetricObject" = true := by first | (simp [plainName, overriddenIn]; done) | decide +kernel
theorem own_d_prog_20_method_1_0 : decode prog_20_method_1_code 0 = .ok (.aload_n 0, 1) := by decide +kernel
theorem own_pd__28__29_V : parseMethodDescriptor "()V" = some ⟨[], none⟩ := by decide +kernel
theorem own_d_prog_20_method_1_1 : decode prog_20_method_1_code 1 = .ok (.invokespecial 1, 3) := by decide +kernel
theorem own_d_prog_20_method_1_4 : decode prog_20_method_1_code 4 = .ok (.aload_n 0, 1) := by decide +kernel
theorem own_d_prog_20_method_1_5 : decode prog_20_method_1_code 5 = .ok (.iload_n 1, 1) := by decide +kernel
theorem own_d_prog_20_method_1_6 : decode prog_20_method_1_code 6 = .ok (.putfield 7, 3) := by decide +kernel
theorem own_d_prog_20_method_1_9 : decode prog_20_method_1_code 9 = .ok (.aload_n 0, 1) := by decide +kernel
theorem own_d_prog_20_method_1_10 : decode prog_20_method_1_code 10 = .ok (.iload_n 2, 1) := by decide +kernel
theorem own_d_prog_20_method_1_11 : decode prog_20_method_1_code 11 = .ok (.putfield 13, 3) := by decide +kernel
theorem own_d_prog_20_method_1_14 : decode prog_20_method_1_code 14 = .ok (.aload_n 0, 1) := by decide +kernel
theorem own_d_prog_20_method_1_15 : decode prog_20_method_1_code 15 = .ok (.dload_n 3, 1) := by decide +kernel
theorem own_d_prog_20_method_1_16 : decode prog_20_method_1_code 16 = .ok (.putfield 16, 3) := by decide +kernel
theorem own_d_prog_20_method_1_19 : decode prog_20_method_1_code 19 = .ok (.return_, 1) := by decide +kernel
def Q_new (Z : State) (a : Addr) (f : Int32) (r : Int32) (d : UInt64) (u1 : Value) (u2 : Value) (u3 : Value) (h0 : Heap) (n0 : Nat) (v : Option Value) (h : Heap) (L : List Loc) : Prop := v = none ∧ Fr n0 L ∧ Keep h0 h [a] ∧ (Exa Z h a "com/example/tempograph/tempograph/pcep/MetricObject") ∧ (Fld Z h a "com/example/tempograph/tempograph/pcep/MetricObject" "flags" "I" (.int f))
set_option maxRecDepth 65536 in
set_option maxHeartbeats 40000000 in
theorem rm_new (l : Launch) (Z : State) (a0 : Array Value) (hw : ∀ d ∈ tables_1, d.before a0 Z = true) (ws : List Jvm.Cond) (a : Addr) (f : Int32) (r : Int32) (d : UInt64) (u1 : Value) (u2 : Value) (u3 : Value) (h0 : Heap) (n0 : Nat) (Z0 : n0 ≤ h0.size) (pr0 : Exa Z h0 a "com/example/tempograph/tempograph/pcep/MetricObject") (pr1 : Fld Z h0 a "com/example/tempograph/tempograph/pcep/MetricObject" "flags" "I" u1) (pr2 : Fld Z h0 a "com/example/tempograph/tempograph/pcep/MetricObject" "typeCode" "I" u2) (pr3 : Fld Z h0 a "com/example/tempograph/tempograph/pcep/MetricObject" "value" "D" u3) (pr4 : n0 ≤ a) :
    MetFree l (⟨"com/example/tempograph/tempograph/pcep/MetricObject", "<init>", "(IID)V"⟩ : MethodName) (head1 (Jvm.Cond.code (⟨"com/example/tempograph/tempograph/pcep/MetricObject", "<init>", "(IID)V"⟩ : MethodName) prog_20_method_1_code 5 none :: ws) ({ frames := 2, cells := 0, slots := 0, locals := 24 } : Room)) (fun as_ U => as_ = #[(.ref a), (.int f), (.int r), (.double d)] ∧ Z.Warmed39 U.vm ∧ U.heap = h0) (fun _ _ _ _ _ => True) (fun _ U o U' => ∃ v L, o = .returned v ∧ Q_new Z a f r d u1 u2 u3 h0 n0 v U'.heap L ∧ FrameEnd U o U' L ({ frames := 2, cells := 0, slots := 0, locals := 24 } : Room).cells ({ frames := 2, cells := 0, slots := 0, locals := 24 } : Room).slots) := by
  refine MetFree.of_bodySF (plainFor_of_name own_pn_com_example_tempograph_tempograph_pcep_MetricObject) hisR ?_
  intro p e s m args below meth c s₁ Bd hml0 hP hK
  obtain ⟨rfl, hZ, hh⟩ := hP
  have hx := Bd.exec
  have hby := Bd.bytes
  have hml : c.maxLocals = 5 := hml0
  have hown : s.vm.findClass "com/example/tempograph/tempograph/pcep/MetricObject" = some m.cls := findClass_of_methodNamed Bd.named
  have hnm := (name_of_methodNamed Bd.named Bd.method).1
  have X0 : Stand p l e ({ frames := 2, cells := 0, slots := 0, locals := 24 } : Room) s m #[(.ref a), (.int f), (.int r), (.double d)] below meth c s₁ [] 0 0 := Stand.of_body Bd
  have e0 : s₁.heap = h0 := by rw [← hh, Bd.state]; rfl
  have N0 := Fr.nil n0
  refine own_Goes.of ?_
  refine own_Goes.nm (fun P hPP => ?_)
  refine own_Goes.st ?_ (fun _ k => castTop (own_ef_new m a f r d) k)
  have K0 : Keep h0 h0 [a] := Keep.refl _ _
  show own_Goes p.tables e below P (s₁.setTop (mkF m 0 #[.val (.ref a), .val (.int f), .val (.int r), .val (.double d), .second] []))
  refine own_Goes.st ?_ (fun _ k => XS.aloadN X0.here hx rfl (hb hby own_d_prog_20_method_1_0) rfl rfl k)
  show own_Goes p.tables e below P (s₁.setTop (mkF m 1 #[.val (.ref a), .val (.int f), .val (.int r), .val (.double d), .second] [(.ref a)]))
  obtain ⟨_, _, ⟨T1, L1, k1, n1⟩, -, X1, ⟨Lc1, hQ1, l1, y1, z1⟩, st1⟩ := X0.specialBack hx (y := (⟨"java/lang/Record", "<init>", "()V"⟩ : MethodName)) rfl hown (mvT hZ (hw _ (List.mem_of_getElem? (i := 6) rfl))) (mvT hZ (hw _ (List.mem_of_getElem? (i := 7) rfl))) (mvT hZ (hw _ (List.mem_of_getElem? (i := 10) rfl))) (by decide) (backOf (W := 0) (rm_rec l Z a0 hw [] a h0 n0 Z0) hZ (hw _ (List.mem_of_getElem? (i := 10) rfl)) (hw _ (List.mem_of_getElem? (i := 9) rfl)) (by decide) (by decide)) (g := (mkF m 1 #[.val (.ref a), .val (.int f), .val (.int r), .val (.double d), .second] [(.ref a)])) rfl (by rw [hml]; rfl) (Steps.refl _) (a := a) (argsL := []) (rest := []) (lenOf own_pd__28__29_V rfl) rfl (by show 2 * 0 + _ ≤ _; exact Nat.le_of_eq rfl) (hb hby own_d_prog_20_method_1_1) (fun _ _ => ⟨rfl, e0, (by decide : 0 + 0 ≤ _), (by decide : 0 + 0 ≤ _)⟩)
  dsimp only [Pt.U, Pt.locs, Pt.cells, Pt.slots] at X1 l1 y1 z1 st1 hQ1
  subst l1 y1 z1
  obtain ⟨rfl, Nq1, e1⟩ := hQ1
  have N1 := Fr.app N0 Nq1
  refine own_Goes.tr st1 ?_
  show own_Goes p.tables e below P (T1.setTop (mkF m 4 #[.val (.ref a), .val (.int f), .val (.int r), .val (.double d), .second] []))
  refine own_Goes.st ?_ (fun _ k => XS.aloadN X1.here hx rfl (hb hby own_d_prog_20_method_1_4) rfl rfl k)
  show own_Goes p.tables e below P (T1.setTop (mkF m 5 #[.val (.ref a), .val (.int f), .val (.int r), .val (.double d), .second] [(.ref a)]))
  refine own_Goes.st ?_ (fun _ k => XS.iloadN X1.here hx rfl (hb hby own_d_prog_20_method_1_5) rfl k)
  show own_Goes p.tables e below P (T1.setTop (mkF m 6 #[.val (.ref a), .val (.int f), .val (.int r), .val (.double d), .second] [(.int f), (.ref a)]))
  obtain ⟨T2, h2, X2, e2, W2, st2⟩ := putF X1 hx hZ hown (host := "") (Or.inl (hw _ (List.mem_of_getElem? (i := 14) rfl))) Via.refl e1 pr1 pr0 (Or.inr ⟨(hw _ (List.mem_of_getElem? (i := 15) rfl)), rfl, hnm⟩) (hw _ (List.mem_of_getElem? (i := 1) rfl)) (ty := .int) (by decide) rfl rfl (g := (mkF m 6 #[.val (.ref a), .val (.int f), .val (.int r), .val (.double d), .second] [(.int f), (.ref a)])) rfl rfl (hb hby own_d_prog_20_method_1_6)
  refine own_Goes.st ?_ st2
  have F3 : Fld Z h2 a "com/example/tempograph/tempograph/pcep/MetricObject" "flags" "I" (.int f) := pr1.same W2
  have Z4 : n0 ≤ h2.size := by rw [W2.size]; exact Z0
  have K5 := K0.wr W2 (Or.inl (List.mem_of_getElem? (i := 0) rfl))
  have N6 := Fr.snoc X2 N1 pr4
  show own_Goes p.tables e below P (T2.setTop (mkF m 9 #[.val (.ref a), .val (.int f), .val (.int r), .val (.double d), .second] []))
  refine own_Goes.st ?_ (fun _ k => XS.aloadN X2.here hx rfl (hb hby own_d_prog_20_method_1_9) rfl rfl k)
  show own_Goes p.tables e below P (T2.setTop (mkF m 10 #[.val (.ref a), .val (.int f), .val (.int r), .val (.double d), .second] [(.ref a)]))
  refine own_Goes.st ?_ (fun _ k => XS.iloadN X2.here hx rfl (hb hby own_d_prog_20_method_1_10) rfl k)
  show own_Goes p.tables e below P (T2.setTop (mkF m 11 #[.val (.ref a), .val (.int f), .val (.int r), .val (.double d), .second] [(.int r), (.ref a)]))
  have F7 : Fld Z h2 a "com/example/tempograph/tempograph/pcep/MetricObject" "typeCode" "I" u2 := (pr2.other W2 (Or.inr (slot_ne (Or.inr (hw _ (List.mem_of_getElem? (i := 17) rfl))) (Or.inr (hw _ (List.mem_of_getElem? (i := 15) rfl))) (by decide) (t := .int) (t' := .int) (by decide) (by decide))))
  have F8 : Exa Z h2 a "com/example/tempograph/tempograph/pcep/MetricObject" := (pr0.wr W2)
  obtain ⟨T9, h9, X9, e9, W9, st9⟩ := putF X2 hx hZ hown (host := "") (Or.inl (hw _ (List.mem_of_getElem? (i := 16) rfl))) Via.refl e2 F7 F8 (Or.inr ⟨(hw _ (List.mem_of_getElem? (i := 17) rfl)), rfl, hnm⟩) (hw _ (List.mem_of_getElem? (i := 1) rfl)) (ty := .int) (by decide) rfl rfl (g := (mkF m 11 #[.val (.ref a), .val (.int f), .val (.int r), .val (.double d), .second] [(.int r), (.ref a)])) rfl rfl (hb hby own_d_prog_20_method_1_11)
  refine own_Goes.st ?_ st9
  have F10 : Fld Z h9 a "com/example/tempograph/tempograph/pcep/MetricObject" "typeCode" "I" (.int r) := F7.same W9
  have Z11 : n0 ≤ h9.size := by rw [W9.size]; exact Z4
  have K12 := K5.wr W9 (Or.inl (List.mem_of_getElem? (i := 0) rfl))
  have N13 := Fr.snoc X9 N6 pr4
  show own_Goes p.tables e below P (T9.setTop (mkF m 14 #[.val (.ref a), .val (.int f), .val (.int r), .val (.double d), .second] []))
  refine own_Goes.st ?_ (fun _ k => XS.aloadN X9.here hx rfl (hb hby own_d_prog_20_method_1_14) rfl rfl k)
  show own_Goes p.tables e below P (T9.setTop (mkF m 15 #[.val (.ref a), .val (.int f), .val (.int r), .val (.double d), .second] [(.ref a)]))
  refine own_Goes.st ?_ (fun _ k => XS.dloadN X9.here hx rfl (hb hby own_d_prog_20_method_1_15) rfl k)
  show own_Goes p.tables e below P (T9.setTop (mkF m 16 #[.val (.ref a), .val (.int f), .val (.int r), .val (.double d), .second] [(.double d), (.ref a)]))
  have F14 : Fld Z h9 a "com/example/tempograph/tempograph/pcep/MetricObject" "value" "D" u3 := ((pr3.other W2 (Or.inr (slot_ne (Or.inr (hw _ (List.mem_of_getElem? (i := 19) rfl))) (Or.inr (hw _ (List.mem_of_getElem? (i := 15) rfl))) (by decide) (t := .double) (t' := .int) (by decide) (by decide)))).other W9 (Or.inr (slot_ne (Or.inr (hw _ (List.mem_of_getElem? (i := 19) rfl))) (Or.inr (hw _ (List.mem_of_getElem? (i := 17) rfl))) (by decide) (t := .double) (t' := .int) (by decide) (by decide))))
  have F15 : Exa Z h9 a "com/example/tempograph/tempograph/pcep/MetricObject" := (F8.wr W9)
  obtain ⟨T16, h16, X16, e16, W16, st16⟩ := putF X9 hx hZ hown (host := "") (Or.inl (hw _ (List.mem_of_getElem? (i := 18) rfl))) Via.refl e9 F14 F15 (Or.inr ⟨(hw _ (List.mem_of_getElem? (i := 19) rfl)), rfl, hnm⟩) (hw _ (List.mem_of_getElem? (i := 1) rfl)) (ty := .double) (by decide) rfl rfl (g := (mkF m 16 #[.val (.ref a), .val (.int f), .val (.int r), .val (.double d), .second] [(.double d), (.ref a)])) rfl rfl (hb hby own_d_prog_20_method_1_16)
  refine own_Goes.st ?_ st16
  have F17 : Fld Z h16 a "com/example/tempograph/tempograph/pcep/MetricObject" "value" "D" (.double d) := F14.same W16
  have Z18 : n0 ≤ h16.size := by rw [W16.size]; exact Z11
  have K19 := K12.wr W16 (Or.inl (List.mem_of_getElem? (i := 0) rfl))
  have N20 := Fr.snoc X16 N13 pr4
  show own_Goes p.tables e below P (T16.setTop (mkF m 19 #[.val (.ref a), .val (.int f), .val (.int r), .val (.double d), .second] []))
  obtain ⟨fs, hr, hrun, hended, hW, hsame⟩ := X16.leave (v := none) (fun _ => rfl)
  have F21 : Exa Z h16 a "com/example/tempograph/tempograph/pcep/MetricObject" := (F15.wr W16)
  have F22 : Fld Z h16 a "com/example/tempograph/tempograph/pcep/MetricObject" "flags" "I" (.int f) := ((F3.other W9 (Or.inr (slot_ne (Or.inr (hw _ (List.mem_of_getElem? (i := 15) rfl))) (Or.inr (hw _ (List.mem_of_getElem? (i := 17) rfl))) (by decide) (t := .int) (t' := .int) (by decide) (by decide)))).other W16 (Or.inr (slot_ne (Or.inr (hw _ (List.mem_of_getElem? (i := 15) rfl))) (Or.inr (hw _ (List.mem_of_getElem? (i := 19) rfl))) (by decide) (t := .int) (t' := .double) (by decide) (by decide))))
  exact own_Goes.fin _ _ (X16.returnOut hx Bd.returns (hb hby own_d_prog_20_method_1_19) hr) (hPP _ _ ⟨hrun, hended, _, _, rfl, (by show Q_new Z a f r d u1 u2 u3 h0 n0 _ T16.heap _; rw [e16]; exact ⟨rfl, N20, K19, F21, F22⟩), ⟨_, rfl⟩, hW, hsame.mono (by decide) (by decide)⟩)
theorem own_ef_bd (m : MethodId) (x0 : Addr) : entryFrame m #[(.ref x0)] 1 = mkF m 0 #[.val (.ref x0)] [] := by first | (simp [entryFrame, mkF, argsToLocals, Value.category]; done) | rfl
theorem own_d_prog_20_method_3_0 : decode prog_20_method_3_code 0 = .ok (.aload_n 0, 1) := by decide +kernel
theorem own_d_prog_20_method_3_1 : decode prog_20_method_3_code 1 = .ok (.getfield 7, 3) := by decide +kernel
theorem own_d_prog_20_method_3_4 : decode prog_20_method_3_code 4 = .ok (.iconst 1, 1) := by decide +kernel
theorem own_d_prog_20_method_3_5 : decode prog_20_method_3_code 5 = .ok (.iand, 1) := by decide +kernel
theorem own_d_prog_20_method_3_6 : decode prog_20_method_3_code 6 = .ok (.ifCond .eq 7, 3) := by decide +kernel
theorem own_d_prog_20_method_3_13 : decode prog_20_method_3_code 13 = .ok (.iconst 0, 1) := by decide +kernel
theorem own_d_prog_20_method_3_14 : decode prog_20_method_3_code 14 = .ok (.ireturn, 1) := by decide +kernel
theorem own_d_prog_20_method_3_9 : decode prog_20_method_3_code 9 = .ok (.iconst 1, 1) := by decide +kernel
theorem own_d_prog_20_method_3_10 : decode prog_20_method_3_code 10 = .ok (.goto 4, 3) := by decide +kernel
def Q_bd (Z : State) (a : Addr) (f : Int32) (h0 : Heap) (n0 : Nat) (v : Option Value) (h : Heap) (L : List Loc) : Prop := v = some (.int (own_bd f)) ∧ Fr n0 L ∧ h = h0
set_option maxRecDepth 65536 in
set_option maxHeartbeats 40000000 in
theorem rm_bd (l : Launch) (Z : State) (a0 : Array Value) (hw : ∀ d ∈ tables_1, d.before a0 Z = true) (ws : List Jvm.Cond) (a : Addr) (f : Int32) (h0 : Heap) (n0 : Nat) (Z0 : n0 ≤ h0.size) (pr0 : Fld Z h0 a "com/example/tempograph/tempograph/pcep/MetricObject" "flags" "I" (.int f)) :
    MetFree l (⟨"com/example/tempograph/tempograph/pcep/MetricObject", "bound", "()Z"⟩ : MethodName) (head1 (Jvm.Cond.code (⟨"com/example/tempograph/tempograph/pcep/MetricObject", "bound", "()Z"⟩ : MethodName) prog_20_method_3_code 1 (some .boolean) :: ws) ({ frames := 0, cells := 0, slots := 0, locals := 0 } : Room)) (fun as_ U => as_ = #[(.ref a)] ∧ Z.Warmed39 U.vm ∧ U.heap = h0) (fun _ _ _ _ _ => True) (fun _ U o U' => ∃ v L, o = .returned v ∧ Q_bd Z a f h0 n0 v U'.heap L ∧ FrameEnd U o U' L ({ frames := 0, cells := 0, slots := 0, locals := 0 } : Room).cells ({ frames := 0, cells := 0, slots := 0, locals := 0 } : Room).slots) := by
  refine MetFree.of_bodySF (plainFor_of_name own_pn_com_example_tempograph_tempograph_pcep_MetricObject) hisR ?_
  intro p e s m args below meth c s₁ Bd hml0 hP hK
  obtain ⟨rfl, hZ, hh⟩ := hP
  have hx := Bd.exec
  have hby := Bd.bytes
  have hml : c.maxLocals = 1 := hml0
  have hown : s.vm.findClass "com/example/tempograph/tempograph/pcep/MetricObject" = some m.cls := findClass_of_methodNamed Bd.named
  have hnm := (name_of_methodNamed Bd.named Bd.method).1
  have X0 : Stand p l e ({ frames := 0, cells := 0, slots := 0, locals := 0 } : Room) s m #[(.ref a)] below meth c s₁ [] 0 0 := Stand.of_body Bd
  have e0 : s₁.heap = h0 := by rw [← hh, Bd.state]; rfl
  have N0 := Fr.nil n0
  refine own_Goes.of ?_
  refine own_Goes.nm (fun P hPP => ?_)
  refine own_Goes.st ?_ (fun _ k => castTop (own_ef_bd m a) k)
  show own_Goes p.tables e below P (s₁.setTop (mkF m 0 #[.val (.ref a)] []))
  refine own_Goes.st ?_ (fun _ k => XS.aloadN X0.here hx rfl (hb hby own_d_prog_20_method_3_0) rfl rfl k)
  show own_Goes p.tables e below P (s₁.setTop (mkF m 1 #[.val (.ref a)] [(.ref a)]))
  obtain ⟨T1, X1, e1, st1⟩ := getF X0 hx hZ hown (host := "") (Or.inl (hw _ (List.mem_of_getElem? (i := 14) rfl))) Via.refl e0 pr0 (g := (mkF m 1 #[.val (.ref a)] [(.ref a)])) rfl rfl (hb hby own_d_prog_20_method_3_1)
  refine own_Goes.st ?_ st1
  show own_Goes p.tables e below P (T1.setTop (mkF m 4 #[.val (.ref a)] [(.int f)]))
  refine own_Goes.st ?_ (fun _ k => XS.iconst X1.here hx rfl (hb hby own_d_prog_20_method_3_4) k)
  show own_Goes p.tables e below P (T1.setTop (mkF m 5 #[.val (.ref a)] [(.int (1 : Int32)), (.int f)]))
  refine own_Goes.st ?_ (fun _ k => XS.iand X1.here hx rfl (hb hby own_d_prog_20_method_3_5) rfl k)
  show own_Goes p.tables e below P (T1.setTop (mkF m 6 #[.val (.ref a)] [(.int (f &&& (1 : Int32)))]))
  by_cases h1 : (f &&& (1 : Int32)) = (0 : Int32)
  · skip
    refine own_Goes.st ?_ (fun _ k => XS.ifYes X1.here hx rfl (pc0 := 6) (pc' := 13) rfl (hb hby own_d_prog_20_method_3_6) rfl ((if0 _ _).trans (teq h1).1) (by decide) (by decide) k)
    show own_Goes p.tables e below P (T1.setTop (mkF m 13 #[.val (.ref a)] []))
    refine own_Goes.st ?_ (fun _ k => XS.iconst X1.here hx rfl (hb hby own_d_prog_20_method_3_13) k)
    show own_Goes p.tables e below P (T1.setTop (mkF m 14 #[.val (.ref a)] [(.int (0 : Int32))]))
    obtain ⟨fs, hr, hrun, hended, hW, hsame⟩ := X1.leave (v := some (.int (0 : Int32))) (fun h => by rw [Bd.returns] at h; cases h)
    exact own_Goes.fin _ _ (retOut X1 hx (t := .boolean) Bd.returns rfl (Or.inl ⟨rfl, Or.inr (Or.inl rfl), _, rfl⟩) (hb hby own_d_prog_20_method_3_14) hr) (hPP _ _ ⟨hrun, hended, _, _, rfl, (by show Q_bd Z a f h0 n0 _ T1.heap _; rw [e1]; exact ⟨(by rw [own_bd, if_pos h1]), N0, rfl⟩), ⟨_, rfl⟩, hW, hsame.mono (by decide) (by decide)⟩)
  · skip
    refine own_Goes.st ?_ (fun _ k => XS.ifNo X1.here hx rfl (hb hby own_d_prog_20_method_3_6) rfl ((if0 _ _).trans (feq h1).1) k)
    show own_Goes p.tables e below P (T1.setTop (mkF m 9 #[.val (.ref a)] []))
    refine own_Goes.st ?_ (fun _ k => XS.iconst X1.here hx rfl (hb hby own_d_prog_20_method_3_9) k)
    show own_Goes p.tables e below P (T1.setTop (mkF m 10 #[.val (.ref a)] [(.int (1 : Int32))]))
    refine own_Goes.st ?_ (fun _ k => XS.goto X1.here hx rfl (pc0 := 10) (pc' := 14) rfl (hb hby own_d_prog_20_method_3_10) (by decide) (by decide) k)
    show own_Goes p.tables e below P (T1.setTop (mkF m 14 #[.val (.ref a)] [(.int (1 : Int32))]))
    obtain ⟨fs, hr, hrun, hended, hW, hsame⟩ := X1.leave (v := some (.int (1 : Int32))) (fun h => by rw [Bd.returns] at h; cases h)
    exact own_Goes.fin _ _ (retOut X1 hx (t := .boolean) Bd.returns rfl (Or.inl ⟨rfl, Or.inr (Or.inl rfl), _, rfl⟩) (hb hby own_d_prog_20_method_3_14) hr) (hPP _ _ ⟨hrun, hended, _, _, rfl, (by show Q_bd Z a f h0 n0 _ T1.heap _; rw [e1]; exact ⟨(by rw [own_bd, if_neg h1]), N0, rfl⟩), ⟨_, rfl⟩, hW, hsame.mono (by decide) (by decide)⟩)
theorem own_ef_law (m : MethodId) (x0 : Int32) (x1 : Int32) (x2 : Int32) : entryFrame m #[(.int x0), (.int x1), (.int x2)] maxLocals = mkF m 0 #[.val (.int x0), .val (.int x1), .val (.int x2), .unset, .unset, .unset, .unset, .unset, .unset, .unset] [] := by first | (simp [entryFrame, mkF, argsToLocals, Value.category, maxLocals]; done) | rfl
theorem own_pn_com_example_tempograph_tempograph_pcep_MetricObjectBoundPinLaw : plainName "com/example/tempograph/tempograph/pcep/MetricObjectBoundPinLaw" = true := by first | (simp [plainName, overriddenIn]; done) | decide +kernel
theorem own_pd__28_IID_29_V : parseMethodDescriptor "(IID)V" = some ⟨[.int, .int, .double], none⟩ := by decide +kernel
theorem own_pd__28__29_Z : parseMethodDescriptor "()Z" = some ⟨[], some .boolean⟩ := by decide +kernel
def Q_law (n0 : Nat) (v : Option Value) (L : List Loc) : Prop := v = some (.int 1) ∧ Fr n0 L
set_option maxRecDepth 65536 in
set_option maxHeartbeats 40000000 in
theorem rm_law (l : Launch) (Z : State) (a0 : Array Value) (hw : ∀ d ∈ tables_1, d.before a0 Z = true) (ws : List Jvm.Cond) (p0 : Int32) (p1 : Int32) (p2 : Int32) (h0 : Heap) (n0 : Nat) (Z0 : n0 ≤ h0.size) :
    MetFree l x (head1 (Jvm.Cond.code x code maxLocals ret :: ws) room_1) (fun as_ U => as_ = #[(.int p0), (.int p1), (.int p2)] ∧ Z.Warmed39 U.vm ∧ U.heap = h0) (fun _ _ _ _ _ => True) (fun _ U o U' => ∃ v L, o = .returned v ∧ Q_law n0 v L ∧ FrameEnd U o U' L 16 128) := by
  refine MetFree.of_bodySF (plainFor_of_name own_pn_com_example_tempograph_tempograph_pcep_MetricObjectBoundPinLaw) hisR ?_
  intro p e s m args below meth c s₁ Bd hml0 hP hK
  obtain ⟨rfl, hZ, hh⟩ := hP
  have hx := Bd.exec
  have hby := Bd.bytes
  have hml : c.maxLocals = 10 := hml0
  have hown : s.vm.findClass "com/example/tempograph/tempograph/pcep/MetricObjectBoundPinLaw" = some m.cls := findClass_of_methodNamed Bd.named
  have hnm := (name_of_methodNamed Bd.named Bd.method).1
  have X0 : Stand p l e room_1 s m #[(.int p0), (.int p1), (.int p2)] below meth c s₁ [] 0 0 := Stand.of_body Bd
  have e0 : s₁.heap = h0 := by rw [← hh, Bd.state]; rfl
  have N0 := Fr.nil n0
  refine own_Goes.of ?_
  refine own_Goes.nm (fun P hPP => ?_)
  refine own_Goes.st ?_ (fun _ k => castTop (own_ef_law m p0 p1 p2) k)
  show own_Goes p.tables e below P (s₁.setTop (mkF m 0 #[.val (.int p0), .val (.int p1), .val (.int p2), .unset, .unset, .unset, .unset, .unset, .unset, .unset] []))
  refine own_Goes.st ?_ (fun _ k => XS.iloadN X0.here hx rfl (hb hby at_0) rfl k)
  show own_Goes p.tables e below P (s₁.setTop (mkF m 1 #[.val (.int p0), .val (.int p1), .val (.int p2), .unset, .unset, .unset, .unset, .unset, .unset, .unset] [(.int p2)]))
  refine own_Goes.st ?_ (fun _ k => XS.i2dS X0.here hx rfl (hb hby at_1) rfl rfl k)
  show own_Goes p.tables e below P (s₁.setTop (mkF m 2 #[.val (.int p0), .val (.int p1), .val (.int p2), .unset, .unset, .unset, .unset, .unset, .unset, .unset] [(.double (FP.i2d p2))]))
  refine own_Goes.st ?_ (fun _ k => XS.dstoreN X0.here hx rfl (hb hby at_2) rfl (l' := #[.val (.int p0), .val (.int p1), .val (.int p2), .val (.double (FP.i2d p2)), .second, .unset, .unset, .unset, .unset, .unset]) rfl k)
  show own_Goes p.tables e below P (s₁.setTop (mkF m 3 #[.val (.int p0), .val (.int p1), .val (.int p2), .val (.double (FP.i2d p2)), .second, .unset, .unset, .unset, .unset, .unset] []))
  generalize hdv : (FP.i2d p2) = dv
  show own_Goes p.tables e below P (s₁.setTop (mkF m 3 #[.val (.int p0), .val (.int p1), .val (.int p2), .val (.double dv), .second, .unset, .unset, .unset, .unset, .unset] []))
  obtain ⟨T1, h1, X1, e1, E1, A1, D1, -, st1⟩ := newO X0 hx hZ hown (hw _ (List.mem_of_getElem? (i := 0) rfl)) (hw _ (List.mem_of_getElem? (i := 1) rfl)) (hw _ (List.mem_of_getElem? (i := 2) rfl)) e0 (g := (mkF m 3 #[.val (.int p0), .val (.int p1), .val (.int p2), .val (.double dv), .second, .unset, .unset, .unset, .unset, .unset] [])) rfl (hb hby at_3) (by decide) (by decide)
  obtain ⟨a1, g1⟩ : ∃ z, z = h0.size := ⟨_, rfl⟩
  rw [← g1] at A1 D1 st1
  have ge_a1 : n0 ≤ a1 := Nat.le_trans Z0 (Nat.le_of_eq g1.symm)
  refine own_Goes.st ?_ st1
  have Z2 : n0 ≤ h1.size := Nat.le_trans Z0 E1.1
  have F3 : Fld Z h1 a1 "com/example/tempograph/tempograph/pcep/MetricObject" "flags" "I" (.int (0 : Int32)) := D1 (Or.inr (hw _ (List.mem_of_getElem? (i := 15) rfl))) (ty := .int) (by decide)
  have F4 : Fld Z h1 a1 "com/example/tempograph/tempograph/pcep/MetricObject" "typeCode" "I" (.int (0 : Int32)) := D1 (Or.inr (hw _ (List.mem_of_getElem? (i := 17) rfl))) (ty := .int) (by decide)
  have F5 : Fld Z h1 a1 "com/example/tempograph/tempograph/pcep/MetricObject" "value" "D" (.double (0 : UInt64)) := D1 (Or.inr (hw _ (List.mem_of_getElem? (i := 19) rfl))) (ty := .double) (by decide)
  show own_Goes p.tables e below P (T1.setTop (mkF m 6 #[.val (.int p0), .val (.int p1), .val (.int p2), .val (.double dv), .second, .unset, .unset, .unset, .unset, .unset] [(.ref a1)]))
  refine own_Goes.st ?_ (fun _ k => XS.dup X1.here hx rfl (hb hby at_6) rfl rfl k)
  show own_Goes p.tables e below P (T1.setTop (mkF m 7 #[.val (.int p0), .val (.int p1), .val (.int p2), .val (.double dv), .second, .unset, .unset, .unset, .unset, .unset] [(.ref a1), (.ref a1)]))
  refine own_Goes.st ?_ (fun _ k => XS.iloadN X1.here hx rfl (hb hby at_7) rfl k)
  show own_Goes p.tables e below P (T1.setTop (mkF m 8 #[.val (.int p0), .val (.int p1), .val (.int p2), .val (.double dv), .second, .unset, .unset, .unset, .unset, .unset] [(.int p0), (.ref a1), (.ref a1)]))
  refine own_Goes.st ?_ (fun _ k => XS.iloadN X1.here hx rfl (hb hby at_8) rfl k)
  show own_Goes p.tables e below P (T1.setTop (mkF m 9 #[.val (.int p0), .val (.int p1), .val (.int p2), .val (.double dv), .second, .unset, .unset, .unset, .unset, .unset] [(.int p1), (.int p0), (.ref a1), (.ref a1)]))
  refine own_Goes.st ?_ (fun _ k => XS.dloadN X1.here hx rfl (hb hby at_9) rfl k)
  show own_Goes p.tables e below P (T1.setTop (mkF m 10 #[.val (.int p0), .val (.int p1), .val (.int p2), .val (.double dv), .second, .unset, .unset, .unset, .unset, .unset] [(.double dv), (.int p1), (.int p0), (.ref a1), (.ref a1)]))
  obtain ⟨_, _, ⟨T6, L6, k6, n6⟩, -, X6, ⟨Lc6, hQ6, l6, y6, z6⟩, st6⟩ := X1.specialBack hx (y := (⟨"com/example/tempograph/tempograph/pcep/MetricObject", "<init>", "(IID)V"⟩ : MethodName)) rfl hown (mvT hZ (hw _ (List.mem_of_getElem? (i := 3) rfl))) (mvT hZ (hw _ (List.mem_of_getElem? (i := 4) rfl))) (mvT hZ (hw _ (List.mem_of_getElem? (i := 5) rfl))) (by decide) (backOf (W := 1) (rm_new l Z a0 hw [] a1 p0 p1 dv (.int (0 : Int32)) (.int (0 : Int32)) (.double (0 : UInt64)) h1 n0 Z2 A1 F3 F4 F5 ge_a1) hZ (hw _ (List.mem_of_getElem? (i := 5) rfl)) (hw _ (List.mem_of_getElem? (i := 2) rfl)) (by decide) (by decide)) (g := (mkF m 10 #[.val (.int p0), .val (.int p1), .val (.int p2), .val (.double dv), .second, .unset, .unset, .unset, .unset, .unset] [(.double dv), (.int p1), (.int p0), (.ref a1), (.ref a1)])) rfl (by rw [hml]; rfl) (Steps.refl _) (a := a1) (argsL := [(.int p0), (.int p1), (.double dv)]) (rest := [(.ref a1)]) (lenOf own_pd__28_IID_29_V rfl) rfl (by show 2 * 0 + _ ≤ _; exact Nat.le_of_eq rfl) (hb hby at_10) (fun _ _ => ⟨rfl, e1, (by decide : 1 + 0 ≤ _), (by decide : 3 + 0 ≤ _)⟩)
  dsimp only [Pt.U, Pt.locs, Pt.cells, Pt.slots] at X6 l6 y6 z6 st6 hQ6
  subst l6 y6 z6
  obtain ⟨rfl, Nq6, K6, f7, f8⟩ := hQ6
  have N6 := Fr.app N0 Nq6
  refine own_Goes.tr st6 ?_
  have Z9 : n0 ≤ T6.heap.size := Nat.le_trans Z2 K6.1
  show own_Goes p.tables e below P (T6.setTop (mkF m 13 #[.val (.int p0), .val (.int p1), .val (.int p2), .val (.double dv), .second, .unset, .unset, .unset, .unset, .unset] [(.ref a1)]))
  refine own_Goes.st ?_ (fun _ k => XS.astore X6.here hx rfl (hb hby at_13) rfl rfl (l' := #[.val (.int p0), .val (.int p1), .val (.int p2), .val (.double dv), .second, .val (.ref a1), .unset, .unset, .unset, .unset]) rfl k)
  show own_Goes p.tables e below P (T6.setTop (mkF m 15 #[.val (.int p0), .val (.int p1), .val (.int p2), .val (.double dv), .second, .val (.ref a1), .unset, .unset, .unset, .unset] []))
  obtain ⟨T10, h10, X10, e10, E10, A10, D10, -, st10⟩ := newO X6 hx hZ hown (hw _ (List.mem_of_getElem? (i := 0) rfl)) (hw _ (List.mem_of_getElem? (i := 1) rfl)) (hw _ (List.mem_of_getElem? (i := 2) rfl)) rfl (g := (mkF m 15 #[.val (.int p0), .val (.int p1), .val (.int p2), .val (.double dv), .second, .val (.ref a1), .unset, .unset, .unset, .unset] [])) rfl (hb hby at_15) (by decide) (by decide)
  obtain ⟨a10, g10⟩ : ∃ z, z = T6.heap.size := ⟨_, rfl⟩
  rw [← g10] at A10 D10 st10
  have ne11 : a1 ≠ a10 := Nat.ne_of_lt (Nat.lt_of_lt_of_eq f7.lt g10.symm)
  have ge_a10 : n0 ≤ a10 := Nat.le_trans Z9 (Nat.le_of_eq g10.symm)
  refine own_Goes.st ?_ st10
  have Z12 : n0 ≤ h10.size := Nat.le_trans Z9 E10.1
  have F13 : Fld Z h10 a10 "com/example/tempograph/tempograph/pcep/MetricObject" "flags" "I" (.int (0 : Int32)) := D10 (Or.inr (hw _ (List.mem_of_getElem? (i := 15) rfl))) (ty := .int) (by decide)
  have F14 : Fld Z h10 a10 "com/example/tempograph/tempograph/pcep/MetricObject" "typeCode" "I" (.int (0 : Int32)) := D10 (Or.inr (hw _ (List.mem_of_getElem? (i := 17) rfl))) (ty := .int) (by decide)
  have F15 : Fld Z h10 a10 "com/example/tempograph/tempograph/pcep/MetricObject" "value" "D" (.double (0 : UInt64)) := D10 (Or.inr (hw _ (List.mem_of_getElem? (i := 19) rfl))) (ty := .double) (by decide)
  show own_Goes p.tables e below P (T10.setTop (mkF m 18 #[.val (.int p0), .val (.int p1), .val (.int p2), .val (.double dv), .second, .val (.ref a1), .unset, .unset, .unset, .unset] [(.ref a10)]))
  refine own_Goes.st ?_ (fun _ k => XS.dup X10.here hx rfl (hb hby at_18) rfl rfl k)
  show own_Goes p.tables e below P (T10.setTop (mkF m 19 #[.val (.int p0), .val (.int p1), .val (.int p2), .val (.double dv), .second, .val (.ref a1), .unset, .unset, .unset, .unset] [(.ref a10), (.ref a10)]))
  refine own_Goes.st ?_ (fun _ k => XS.iloadN X10.here hx rfl (hb hby at_19) rfl k)
  show own_Goes p.tables e below P (T10.setTop (mkF m 20 #[.val (.int p0), .val (.int p1), .val (.int p2), .val (.double dv), .second, .val (.ref a1), .unset, .unset, .unset, .unset] [(.int p0), (.ref a10), (.ref a10)]))
  refine own_Goes.st ?_ (fun _ k => XS.iconst X10.here hx rfl (hb hby at_20) k)
  show own_Goes p.tables e below P (T10.setTop (mkF m 21 #[.val (.int p0), .val (.int p1), .val (.int p2), .val (.double dv), .second, .val (.ref a1), .unset, .unset, .unset, .unset] [(.int (1 : Int32)), (.int p0), (.ref a10), (.ref a10)]))
  refine own_Goes.st ?_ (fun _ k => XS.ixor X10.here hx rfl (hb hby at_21) rfl k)
  show own_Goes p.tables e below P (T10.setTop (mkF m 22 #[.val (.int p0), .val (.int p1), .val (.int p2), .val (.double dv), .second, .val (.ref a1), .unset, .unset, .unset, .unset] [(.int (p0 ^^^ (1 : Int32))), (.ref a10), (.ref a10)]))
  refine own_Goes.st ?_ (fun _ k => XS.iloadN X10.here hx rfl (hb hby at_22) rfl k)
  show own_Goes p.tables e below P (T10.setTop (mkF m 23 #[.val (.int p0), .val (.int p1), .val (.int p2), .val (.double dv), .second, .val (.ref a1), .unset, .unset, .unset, .unset] [(.int p1), (.int (p0 ^^^ (1 : Int32))), (.ref a10), (.ref a10)]))
  refine own_Goes.st ?_ (fun _ k => XS.dloadN X10.here hx rfl (hb hby at_23) rfl k)
  show own_Goes p.tables e below P (T10.setTop (mkF m 24 #[.val (.int p0), .val (.int p1), .val (.int p2), .val (.double dv), .second, .val (.ref a1), .unset, .unset, .unset, .unset] [(.double dv), (.int p1), (.int (p0 ^^^ (1 : Int32))), (.ref a10), (.ref a10)]))
  obtain ⟨_, _, ⟨T16, L16, k16, n16⟩, -, X16, ⟨Lc16, hQ16, l16, y16, z16⟩, st16⟩ := X10.specialBack hx (y := (⟨"com/example/tempograph/tempograph/pcep/MetricObject", "<init>", "(IID)V"⟩ : MethodName)) rfl hown (mvT hZ (hw _ (List.mem_of_getElem? (i := 3) rfl))) (mvT hZ (hw _ (List.mem_of_getElem? (i := 4) rfl))) (mvT hZ (hw _ (List.mem_of_getElem? (i := 5) rfl))) (by decide) (backOf (W := 1) (rm_new l Z a0 hw [] a10 (p0 ^^^ (1 : Int32)) p1 dv (.int (0 : Int32)) (.int (0 : Int32)) (.double (0 : UInt64)) h10 n0 Z12 A10 F13 F14 F15 ge_a10) hZ (hw _ (List.mem_of_getElem? (i := 5) rfl)) (hw _ (List.mem_of_getElem? (i := 2) rfl)) (by decide) (by decide)) (g := (mkF m 24 #[.val (.int p0), .val (.int p1), .val (.int p2), .val (.double dv), .second, .val (.ref a1), .unset, .unset, .unset, .unset] [(.double dv), (.int p1), (.int (p0 ^^^ (1 : Int32))), (.ref a10), (.ref a10)])) rfl (by rw [hml]; rfl) (Steps.refl _) (a := a10) (argsL := [(.int (p0 ^^^ (1 : Int32))), (.int p1), (.double dv)]) (rest := [(.ref a10)]) (lenOf own_pd__28_IID_29_V rfl) rfl (by show 2 * 0 + _ ≤ _; exact Nat.le_of_eq rfl) (hb hby at_24) (fun _ _ => ⟨rfl, e10, (by decide : 2 + 0 ≤ _), (by decide : 6 + 0 ≤ _)⟩)
  dsimp only [Pt.U, Pt.locs, Pt.cells, Pt.slots] at X16 l16 y16 z16 st16 hQ16
  subst l16 y16 z16
  obtain ⟨rfl, Nq16, K16, f17, f18⟩ := hQ16
  have N16 := Fr.app N6 Nq16
  refine own_Goes.tr st16 ?_
  have Z19 : n0 ≤ T16.heap.size := Nat.le_trans Z12 K16.1
  show own_Goes p.tables e below P (T16.setTop (mkF m 27 #[.val (.int p0), .val (.int p1), .val (.int p2), .val (.double dv), .second, .val (.ref a1), .unset, .unset, .unset, .unset] [(.ref a10)]))
  refine own_Goes.st ?_ (fun _ k => XS.astore X16.here hx rfl (hb hby at_27) rfl rfl (l' := #[.val (.int p0), .val (.int p1), .val (.int p2), .val (.double dv), .second, .val (.ref a1), .val (.ref a10), .unset, .unset, .unset]) rfl k)
  show own_Goes p.tables e below P (T16.setTop (mkF m 29 #[.val (.int p0), .val (.int p1), .val (.int p2), .val (.double dv), .second, .val (.ref a1), .val (.ref a10), .unset, .unset, .unset] []))
  refine own_Goes.st ?_ (fun _ k => XS.iloadN X16.here hx rfl (hb hby at_29) rfl k)
  show own_Goes p.tables e below P (T16.setTop (mkF m 30 #[.val (.int p0), .val (.int p1), .val (.int p2), .val (.double dv), .second, .val (.ref a1), .val (.ref a10), .unset, .unset, .unset] [(.int p0)]))
  refine own_Goes.st ?_ (fun _ k => XS.iloadN X16.here hx rfl (hb hby at_30) rfl k)
  show own_Goes p.tables e below P (T16.setTop (mkF m 31 #[.val (.int p0), .val (.int p1), .val (.int p2), .val (.double dv), .second, .val (.ref a1), .val (.ref a10), .unset, .unset, .unset] [(.int p0), (.int p0)]))
  refine own_Goes.st ?_ (fun _ k => XS.iconst X16.here hx rfl (hb hby at_31) k)
  show own_Goes p.tables e below P (T16.setTop (mkF m 32 #[.val (.int p0), .val (.int p1), .val (.int p2), .val (.double dv), .second, .val (.ref a1), .val (.ref a10), .unset, .unset, .unset] [(.int (1 : Int32)), (.int p0), (.int p0)]))
  refine own_Goes.st ?_ (fun _ k => XS.ishr X16.here hx rfl (hb hby at_32) rfl k)
  show own_Goes p.tables e below P (T16.setTop (mkF m 33 #[.val (.int p0), .val (.int p1), .val (.int p2), .val (.double dv), .second, .val (.ref a1), .val (.ref a10), .unset, .unset, .unset] [(.int (p0 >>> ((1 : Int32) &&& 31))), (.int p0)]))
  refine own_Goes.st ?_ (fun _ k => XS.iconst X16.here hx rfl (hb hby at_33) k)
  show own_Goes p.tables e below P (T16.setTop (mkF m 34 #[.val (.int p0), .val (.int p1), .val (.int p2), .val (.double dv), .second, .val (.ref a1), .val (.ref a10), .unset, .unset, .unset] [(.int (1 : Int32)), (.int (p0 >>> ((1 : Int32) &&& 31))), (.int p0)]))
  refine own_Goes.st ?_ (fun _ k => XS.ishl X16.here hx rfl (hb hby at_34) rfl k)
  show own_Goes p.tables e below P (T16.setTop (mkF m 35 #[.val (.int p0), .val (.int p1), .val (.int p2), .val (.double dv), .second, .val (.ref a1), .val (.ref a10), .unset, .unset, .unset] [(.int ((p0 >>> ((1 : Int32) &&& 31)) <<< ((1 : Int32) &&& 31))), (.int p0)]))
  refine own_Goes.st ?_ (fun _ k => XS.isub X16.here hx rfl (hb hby at_35) rfl k)
  show own_Goes p.tables e below P (T16.setTop (mkF m 36 #[.val (.int p0), .val (.int p1), .val (.int p2), .val (.double dv), .second, .val (.ref a1), .val (.ref a10), .unset, .unset, .unset] [(.int (p0 - ((p0 >>> ((1 : Int32) &&& 31)) <<< ((1 : Int32) &&& 31))))]))
  refine own_Goes.st ?_ (fun _ k => XS.iconst X16.here hx rfl (hb hby at_36) k)
  show own_Goes p.tables e below P (T16.setTop (mkF m 37 #[.val (.int p0), .val (.int p1), .val (.int p2), .val (.double dv), .second, .val (.ref a1), .val (.ref a10), .unset, .unset, .unset] [(.int (1 : Int32)), (.int (p0 - ((p0 >>> ((1 : Int32) &&& 31)) <<< ((1 : Int32) &&& 31))))]))
  by_cases h1 : (p0 - ((p0 >>> ((1 : Int32) &&& 31)) <<< ((1 : Int32) &&& 31))) = (1 : Int32)
  · skip
    refine own_Goes.st ?_ (fun _ k => XS.icmpNo X16.here hx rfl (hb hby at_37) rfl (teq h1).2 k)
    show own_Goes p.tables e below P (T16.setTop (mkF m 40 #[.val (.int p0), .val (.int p1), .val (.int p2), .val (.double dv), .second, .val (.ref a1), .val (.ref a10), .unset, .unset, .unset] []))
    refine own_Goes.st ?_ (fun _ k => XS.iconst X16.here hx rfl (hb hby at_40) k)
    show own_Goes p.tables e below P (T16.setTop (mkF m 41 #[.val (.int p0), .val (.int p1), .val (.int p2), .val (.double dv), .second, .val (.ref a1), .val (.ref a10), .unset, .unset, .unset] [(.int (1 : Int32))]))
    refine own_Goes.st ?_ (fun _ k => XS.goto X16.here hx rfl (pc0 := 41) (pc' := 45) rfl (hb hby at_41) (by decide) (by decide) k)
    show own_Goes p.tables e below P (T16.setTop (mkF m 45 #[.val (.int p0), .val (.int p1), .val (.int p2), .val (.double dv), .second, .val (.ref a1), .val (.ref a10), .unset, .unset, .unset] [(.int (1 : Int32))]))
    refine own_Goes.st ?_ (fun _ k => XS.istore X16.here hx rfl (hb hby at_45) rfl (l' := #[.val (.int p0), .val (.int p1), .val (.int p2), .val (.double dv), .second, .val (.ref a1), .val (.ref a10), .val (.int (1 : Int32)), .unset, .unset]) rfl k)
    show own_Goes p.tables e below P (T16.setTop (mkF m 47 #[.val (.int p0), .val (.int p1), .val (.int p2), .val (.double dv), .second, .val (.ref a1), .val (.ref a10), .val (.int (1 : Int32)), .unset, .unset] []))
    refine own_Goes.st ?_ (fun _ k => XS.aload X16.here hx rfl (hb hby at_47) rfl rfl k)
    show own_Goes p.tables e below P (T16.setTop (mkF m 49 #[.val (.int p0), .val (.int p1), .val (.int p2), .val (.double dv), .second, .val (.ref a1), .val (.ref a10), .val (.int (1 : Int32)), .unset, .unset] [(.ref a1)]))
    have F20 : Fld Z T16.heap a1 "com/example/tempograph/tempograph/pcep/MetricObject" "flags" "I" (.int p0) := ((f8.ext E10).keep K16 (ninS ne11 nin0))
    have F22 : Exa Z T16.heap a1 "com/example/tempograph/tempograph/pcep/MetricObject" := ((f7.ext E10).keep K16)
    obtain ⟨cq21, kq21, q21a, q21b, q21c⟩ := isOf hZ rfl F22
    obtain ⟨_, _, ⟨T21, L21, k21, n21⟩, -, X21, ⟨Lc21, hQ21, l21, y21, z21⟩, st21⟩ := X16.virtualBack hx (y := (⟨"com/example/tempograph/tempograph/pcep/MetricObject", "bound", "()Z"⟩ : MethodName)) (z := (⟨"com/example/tempograph/tempograph/pcep/MetricObject", "bound", "()Z"⟩ : MethodName)) hown (mvT hZ (hw _ (List.mem_of_getElem? (i := 20) rfl))) (mvT hZ (hw _ (List.mem_of_getElem? (i := 21) rfl))) (notFace_of_selects (args := #[]) (mvT hZ (hw _ (List.mem_of_getElem? (i := 23) rfl)))) (mvT hZ (hw _ (List.mem_of_getElem? (i := 23) rfl))) (mvT hZ (hw _ (List.mem_of_getElem? (i := 22) rfl))) (by decide) (backOf (W := 0) (rm_bd l Z a0 hw [] a1 p0 T16.heap n0 Z19 F20) hZ (hw _ (List.mem_of_getElem? (i := 24) rfl)) (hw _ (List.mem_of_getElem? (i := 2) rfl)) (by decide) (by decide)) q21a q21c (g := (mkF m 49 #[.val (.int p0), .val (.int p1), .val (.int p2), .val (.double dv), .second, .val (.ref a1), .val (.ref a10), .val (.int (1 : Int32)), .unset, .unset] [(.ref a1)])) rfl (by rw [hml]; rfl) (Steps.refl _) (argsL := []) (rest := []) (lenOf own_pd__28__29_Z rfl) rfl (by show 2 * 0 + _ ≤ _; exact Nat.le_of_eq rfl) (hb hby at_49) (fun _ _ => ⟨rfl, rfl, (by decide : 2 + 0 ≤ _), (by decide : 6 + 0 ≤ _)⟩)
    dsimp only [Pt.U, Pt.locs, Pt.cells, Pt.slots] at X21 l21 y21 z21 st21 hQ21
    subst l21 y21 z21
    obtain ⟨rfl, Nq21, e21⟩ := hQ21
    have N21 := Fr.app N16 Nq21
    refine own_Goes.tr st21 ?_
    show own_Goes p.tables e below P (T21.setTop (mkF m 52 #[.val (.int p0), .val (.int p1), .val (.int p2), .val (.double dv), .second, .val (.ref a1), .val (.ref a10), .val (.int (1 : Int32)), .unset, .unset] [(.int (own_bd p0))]))
    rw [(own_bd1 (own_odd h1))]
    show own_Goes p.tables e below P (T21.setTop (mkF m 52 #[.val (.int p0), .val (.int p1), .val (.int p2), .val (.double dv), .second, .val (.ref a1), .val (.ref a10), .val (.int (1 : Int32)), .unset, .unset] [(.int (1 : Int32))]))
    refine own_Goes.st ?_ (fun _ k => XS.istore X21.here hx rfl (hb hby at_52) rfl (l' := #[.val (.int p0), .val (.int p1), .val (.int p2), .val (.double dv), .second, .val (.ref a1), .val (.ref a10), .val (.int (1 : Int32)), .val (.int (1 : Int32)), .unset]) rfl k)
    show own_Goes p.tables e below P (T21.setTop (mkF m 54 #[.val (.int p0), .val (.int p1), .val (.int p2), .val (.double dv), .second, .val (.ref a1), .val (.ref a10), .val (.int (1 : Int32)), .val (.int (1 : Int32)), .unset] []))
    refine own_Goes.st ?_ (fun _ k => XS.aload X21.here hx rfl (hb hby at_54) rfl rfl k)
    show own_Goes p.tables e below P (T21.setTop (mkF m 56 #[.val (.int p0), .val (.int p1), .val (.int p2), .val (.double dv), .second, .val (.ref a1), .val (.ref a10), .val (.int (1 : Int32)), .val (.int (1 : Int32)), .unset] [(.ref a10)]))
    obtain ⟨cq23, kq23, q23a, q23b, q23c⟩ := isOf hZ e21 f17
    obtain ⟨_, _, ⟨T23, L23, k23, n23⟩, -, X23, ⟨Lc23, hQ23, l23, y23, z23⟩, st23⟩ := X21.virtualBack hx (y := (⟨"com/example/tempograph/tempograph/pcep/MetricObject", "bound", "()Z"⟩ : MethodName)) (z := (⟨"com/example/tempograph/tempograph/pcep/MetricObject", "bound", "()Z"⟩ : MethodName)) hown (mvT hZ (hw _ (List.mem_of_getElem? (i := 20) rfl))) (mvT hZ (hw _ (List.mem_of_getElem? (i := 21) rfl))) (notFace_of_selects (args := #[]) (mvT hZ (hw _ (List.mem_of_getElem? (i := 23) rfl)))) (mvT hZ (hw _ (List.mem_of_getElem? (i := 23) rfl))) (mvT hZ (hw _ (List.mem_of_getElem? (i := 22) rfl))) (by decide) (backOf (W := 0) (rm_bd l Z a0 hw [] a10 (p0 ^^^ (1 : Int32)) T16.heap n0 Z19 f18) hZ (hw _ (List.mem_of_getElem? (i := 24) rfl)) (hw _ (List.mem_of_getElem? (i := 2) rfl)) (by decide) (by decide)) q23a q23c (g := (mkF m 56 #[.val (.int p0), .val (.int p1), .val (.int p2), .val (.double dv), .second, .val (.ref a1), .val (.ref a10), .val (.int (1 : Int32)), .val (.int (1 : Int32)), .unset] [(.ref a10)])) rfl (by rw [hml]; rfl) (Steps.refl _) (argsL := []) (rest := []) (lenOf own_pd__28__29_Z rfl) rfl (by show 2 * 0 + _ ≤ _; exact Nat.le_of_eq rfl) (hb hby at_56) (fun _ _ => ⟨rfl, e21, (by decide : 2 + 0 ≤ _), (by decide : 6 + 0 ≤ _)⟩)
    dsimp only [Pt.U, Pt.locs, Pt.cells, Pt.slots] at X23 l23 y23 z23 st23 hQ23
    subst l23 y23 z23
    obtain ⟨rfl, Nq23, e23⟩ := hQ23
    have N23 := Fr.app N21 Nq23
    refine own_Goes.tr st23 ?_
    show own_Goes p.tables e below P (T23.setTop (mkF m 59 #[.val (.int p0), .val (.int p1), .val (.int p2), .val (.double dv), .second, .val (.ref a1), .val (.ref a10), .val (.int (1 : Int32)), .val (.int (1 : Int32)), .unset] [(.int (own_bd (p0 ^^^ (1 : Int32))))]))
    rw [(own_bd0 (by have q := own_odd h1; have z := own_x p0; omega : (p0 ^^^ (1 : Int32)).toInt % 2 = 0))]
    show own_Goes p.tables e below P (T23.setTop (mkF m 59 #[.val (.int p0), .val (.int p1), .val (.int p2), .val (.double dv), .second, .val (.ref a1), .val (.ref a10), .val (.int (1 : Int32)), .val (.int (1 : Int32)), .unset] [(.int (0 : Int32))]))
    refine own_Goes.st ?_ (fun _ k => XS.istore X23.here hx rfl (hb hby at_59) rfl (l' := #[.val (.int p0), .val (.int p1), .val (.int p2), .val (.double dv), .second, .val (.ref a1), .val (.ref a10), .val (.int (1 : Int32)), .val (.int (1 : Int32)), .val (.int (0 : Int32))]) rfl k)
    show own_Goes p.tables e below P (T23.setTop (mkF m 61 #[.val (.int p0), .val (.int p1), .val (.int p2), .val (.double dv), .second, .val (.ref a1), .val (.ref a10), .val (.int (1 : Int32)), .val (.int (1 : Int32)), .val (.int (0 : Int32))] []))
    refine own_Goes.st ?_ (fun _ k => XS.iload X23.here hx rfl (hb hby at_61) rfl k)
    show own_Goes p.tables e below P (T23.setTop (mkF m 63 #[.val (.int p0), .val (.int p1), .val (.int p2), .val (.double dv), .second, .val (.ref a1), .val (.ref a10), .val (.int (1 : Int32)), .val (.int (1 : Int32)), .val (.int (0 : Int32))] [(.int (1 : Int32))]))
    refine own_Goes.st ?_ (fun _ k => XS.iload X23.here hx rfl (hb hby at_63) rfl k)
    show own_Goes p.tables e below P (T23.setTop (mkF m 65 #[.val (.int p0), .val (.int p1), .val (.int p2), .val (.double dv), .second, .val (.ref a1), .val (.ref a10), .val (.int (1 : Int32)), .val (.int (1 : Int32)), .val (.int (0 : Int32))] [(.int (1 : Int32)), (.int (1 : Int32))]))
    refine own_Goes.st ?_ (fun _ k => XS.icmpNo X23.here hx rfl (hb hby at_65) rfl (teq (by decide : (1 : Int32) = (1 : Int32))).2 k)
    show own_Goes p.tables e below P (T23.setTop (mkF m 68 #[.val (.int p0), .val (.int p1), .val (.int p2), .val (.double dv), .second, .val (.ref a1), .val (.ref a10), .val (.int (1 : Int32)), .val (.int (1 : Int32)), .val (.int (0 : Int32))] []))
    refine own_Goes.st ?_ (fun _ k => XS.iload X23.here hx rfl (hb hby at_68) rfl k)
    show own_Goes p.tables e below P (T23.setTop (mkF m 70 #[.val (.int p0), .val (.int p1), .val (.int p2), .val (.double dv), .second, .val (.ref a1), .val (.ref a10), .val (.int (1 : Int32)), .val (.int (1 : Int32)), .val (.int (0 : Int32))] [(.int (0 : Int32))]))
    refine own_Goes.st ?_ (fun _ k => XS.iload X23.here hx rfl (hb hby at_70) rfl k)
    show own_Goes p.tables e below P (T23.setTop (mkF m 72 #[.val (.int p0), .val (.int p1), .val (.int p2), .val (.double dv), .second, .val (.ref a1), .val (.ref a10), .val (.int (1 : Int32)), .val (.int (1 : Int32)), .val (.int (0 : Int32))] [(.int (1 : Int32)), (.int (0 : Int32))]))
    refine own_Goes.st ?_ (fun _ k => XS.ifYes X23.here hx rfl (pc0 := 72) (pc' := 79) rfl (hb hby at_72) rfl ((if0 _ _).trans (feq (by decide : ¬ ((1 : Int32) = (0 : Int32)))).2) (by decide) (by decide) k)
    show own_Goes p.tables e below P (T23.setTop (mkF m 79 #[.val (.int p0), .val (.int p1), .val (.int p2), .val (.double dv), .second, .val (.ref a1), .val (.ref a10), .val (.int (1 : Int32)), .val (.int (1 : Int32)), .val (.int (0 : Int32))] [(.int (0 : Int32))]))
    refine own_Goes.st ?_ (fun _ k => XS.iconst X23.here hx rfl (hb hby at_79) k)
    show own_Goes p.tables e below P (T23.setTop (mkF m 80 #[.val (.int p0), .val (.int p1), .val (.int p2), .val (.double dv), .second, .val (.ref a1), .val (.ref a10), .val (.int (1 : Int32)), .val (.int (1 : Int32)), .val (.int (0 : Int32))] [(.int (0 : Int32)), (.int (0 : Int32))]))
    refine own_Goes.st ?_ (fun _ k => XS.icmpNo X23.here hx rfl (hb hby at_80) rfl (teq (by decide : (0 : Int32) = (0 : Int32))).2 k)
    show own_Goes p.tables e below P (T23.setTop (mkF m 83 #[.val (.int p0), .val (.int p1), .val (.int p2), .val (.double dv), .second, .val (.ref a1), .val (.ref a10), .val (.int (1 : Int32)), .val (.int (1 : Int32)), .val (.int (0 : Int32))] []))
    refine own_Goes.st ?_ (fun _ k => XS.iconst X23.here hx rfl (hb hby at_83) k)
    show own_Goes p.tables e below P (T23.setTop (mkF m 84 #[.val (.int p0), .val (.int p1), .val (.int p2), .val (.double dv), .second, .val (.ref a1), .val (.ref a10), .val (.int (1 : Int32)), .val (.int (1 : Int32)), .val (.int (0 : Int32))] [(.int (1 : Int32))]))
    refine own_Goes.st ?_ (fun _ k => XS.goto X23.here hx rfl (pc0 := 84) (pc' := 88) rfl (hb hby at_84) (by decide) (by decide) k)
    show own_Goes p.tables e below P (T23.setTop (mkF m 88 #[.val (.int p0), .val (.int p1), .val (.int p2), .val (.double dv), .second, .val (.ref a1), .val (.ref a10), .val (.int (1 : Int32)), .val (.int (1 : Int32)), .val (.int (0 : Int32))] [(.int (1 : Int32))]))
    obtain ⟨fs, hr, hrun, hended, hW, hsame⟩ := X23.leave (v := some (.int (1 : Int32))) (fun h => by rw [Bd.returns] at h; cases h)
    exact own_Goes.fin _ _ (retOut X23 hx (t := .boolean) Bd.returns rfl (Or.inl ⟨rfl, Or.inr (Or.inl rfl), _, rfl⟩) (hb hby at_88) hr) (hPP _ _ ⟨hrun, hended, _, _, rfl, (by show Q_law n0 _ _; exact ⟨rfl, N23⟩), ⟨_, rfl⟩, hW, hsame.mono (by decide) (by decide)⟩)
  · skip
    refine own_Goes.st ?_ (fun _ k => XS.icmpYes X16.here hx rfl (pc0 := 37) (pc' := 44) rfl (hb hby at_37) rfl (feq h1).2 (by decide) (by decide) k)
    show own_Goes p.tables e below P (T16.setTop (mkF m 44 #[.val (.int p0), .val (.int p1), .val (.int p2), .val (.double dv), .second, .val (.ref a1), .val (.ref a10), .unset, .unset, .unset] []))
    refine own_Goes.st ?_ (fun _ k => XS.iconst X16.here hx rfl (hb hby at_44) k)
    show own_Goes p.tables e below P (T16.setTop (mkF m 45 #[.val (.int p0), .val (.int p1), .val (.int p2), .val (.double dv), .second, .val (.ref a1), .val (.ref a10), .unset, .unset, .unset] [(.int (0 : Int32))]))
    refine own_Goes.st ?_ (fun _ k => XS.istore X16.here hx rfl (hb hby at_45) rfl (l' := #[.val (.int p0), .val (.int p1), .val (.int p2), .val (.double dv), .second, .val (.ref a1), .val (.ref a10), .val (.int (0 : Int32)), .unset, .unset]) rfl k)
    show own_Goes p.tables e below P (T16.setTop (mkF m 47 #[.val (.int p0), .val (.int p1), .val (.int p2), .val (.double dv), .second, .val (.ref a1), .val (.ref a10), .val (.int (0 : Int32)), .unset, .unset] []))
    refine own_Goes.st ?_ (fun _ k => XS.aload X16.here hx rfl (hb hby at_47) rfl rfl k)
    show own_Goes p.tables e below P (T16.setTop (mkF m 49 #[.val (.int p0), .val (.int p1), .val (.int p2), .val (.double dv), .second, .val (.ref a1), .val (.ref a10), .val (.int (0 : Int32)), .unset, .unset] [(.ref a1)]))
    have F24 : Fld Z T16.heap a1 "com/example/tempograph/tempograph/pcep/MetricObject" "flags" "I" (.int p0) := ((f8.ext E10).keep K16 (ninS ne11 nin0))
    have F26 : Exa Z T16.heap a1 "com/example/tempograph/tempograph/pcep/MetricObject" := ((f7.ext E10).keep K16)
    obtain ⟨cq25, kq25, q25a, q25b, q25c⟩ := isOf hZ rfl F26
    obtain ⟨_, _, ⟨T25, L25, k25, n25⟩, -, X25, ⟨Lc25, hQ25, l25, y25, z25⟩, st25⟩ := X16.virtualBack hx (y := (⟨"com/example/tempograph/tempograph/pcep/MetricObject", "bound", "()Z"⟩ : MethodName)) (z := (⟨"com/example/tempograph/tempograph/pcep/MetricObject", "bound", "()Z"⟩ : MethodName)) hown (mvT hZ (hw _ (List.mem_of_getElem? (i := 20) rfl))) (mvT hZ (hw _ (List.mem_of_getElem? (i := 21) rfl))) (notFace_of_selects (args := #[]) (mvT hZ (hw _ (List.mem_of_getElem? (i := 23) rfl)))) (mvT hZ (hw _ (List.mem_of_getElem? (i := 23) rfl))) (mvT hZ (hw _ (List.mem_of_getElem? (i := 22) rfl))) (by decide) (backOf (W := 0) (rm_bd l Z a0 hw [] a1 p0 T16.heap n0 Z19 F24) hZ (hw _ (List.mem_of_getElem? (i := 24) rfl)) (hw _ (List.mem_of_getElem? (i := 2) rfl)) (by decide) (by decide)) q25a q25c (g := (mkF m 49 #[.val (.int p0), .val (.int p1), .val (.int p2), .val (.double dv), .second, .val (.ref a1), .val (.ref a10), .val (.int (0 : Int32)), .unset, .unset] [(.ref a1)])) rfl (by rw [hml]; rfl) (Steps.refl _) (argsL := []) (rest := []) (lenOf own_pd__28__29_Z rfl) rfl (by show 2 * 0 + _ ≤ _; exact Nat.le_of_eq rfl) (hb hby at_49) (fun _ _ => ⟨rfl, rfl, (by decide : 2 + 0 ≤ _), (by decide : 6 + 0 ≤ _)⟩)
    dsimp only [Pt.U, Pt.locs, Pt.cells, Pt.slots] at X25 l25 y25 z25 st25 hQ25
    subst l25 y25 z25
    obtain ⟨rfl, Nq25, e25⟩ := hQ25
    have N25 := Fr.app N16 Nq25
    refine own_Goes.tr st25 ?_
    show own_Goes p.tables e below P (T25.setTop (mkF m 52 #[.val (.int p0), .val (.int p1), .val (.int p2), .val (.double dv), .second, .val (.ref a1), .val (.ref a10), .val (.int (0 : Int32)), .unset, .unset] [(.int (own_bd p0))]))
    rw [(own_bd0 (own_even h1))]
    show own_Goes p.tables e below P (T25.setTop (mkF m 52 #[.val (.int p0), .val (.int p1), .val (.int p2), .val (.double dv), .second, .val (.ref a1), .val (.ref a10), .val (.int (0 : Int32)), .unset, .unset] [(.int (0 : Int32))]))
    refine own_Goes.st ?_ (fun _ k => XS.istore X25.here hx rfl (hb hby at_52) rfl (l' := #[.val (.int p0), .val (.int p1), .val (.int p2), .val (.double dv), .second, .val (.ref a1), .val (.ref a10), .val (.int (0 : Int32)), .val (.int (0 : Int32)), .unset]) rfl k)
    show own_Goes p.tables e below P (T25.setTop (mkF m 54 #[.val (.int p0), .val (.int p1), .val (.int p2), .val (.double dv), .second, .val (.ref a1), .val (.ref a10), .val (.int (0 : Int32)), .val (.int (0 : Int32)), .unset] []))
    refine own_Goes.st ?_ (fun _ k => XS.aload X25.here hx rfl (hb hby at_54) rfl rfl k)
    show own_Goes p.tables e below P (T25.setTop (mkF m 56 #[.val (.int p0), .val (.int p1), .val (.int p2), .val (.double dv), .second, .val (.ref a1), .val (.ref a10), .val (.int (0 : Int32)), .val (.int (0 : Int32)), .unset] [(.ref a10)]))
    obtain ⟨cq27, kq27, q27a, q27b, q27c⟩ := isOf hZ e25 f17
    obtain ⟨_, _, ⟨T27, L27, k27, n27⟩, -, X27, ⟨Lc27, hQ27, l27, y27, z27⟩, st27⟩ := X25.virtualBack hx (y := (⟨"com/example/tempograph/tempograph/pcep/MetricObject", "bound", "()Z"⟩ : MethodName)) (z := (⟨"com/example/tempograph/tempograph/pcep/MetricObject", "bound", "()Z"⟩ : MethodName)) hown (mvT hZ (hw _ (List.mem_of_getElem? (i := 20) rfl))) (mvT hZ (hw _ (List.mem_of_getElem? (i := 21) rfl))) (notFace_of_selects (args := #[]) (mvT hZ (hw _ (List.mem_of_getElem? (i := 23) rfl)))) (mvT hZ (hw _ (List.mem_of_getElem? (i := 23) rfl))) (mvT hZ (hw _ (List.mem_of_getElem? (i := 22) rfl))) (by decide) (backOf (W := 0) (rm_bd l Z a0 hw [] a10 (p0 ^^^ (1 : Int32)) T16.heap n0 Z19 f18) hZ (hw _ (List.mem_of_getElem? (i := 24) rfl)) (hw _ (List.mem_of_getElem? (i := 2) rfl)) (by decide) (by decide)) q27a q27c (g := (mkF m 56 #[.val (.int p0), .val (.int p1), .val (.int p2), .val (.double dv), .second, .val (.ref a1), .val (.ref a10), .val (.int (0 : Int32)), .val (.int (0 : Int32)), .unset] [(.ref a10)])) rfl (by rw [hml]; rfl) (Steps.refl _) (argsL := []) (rest := []) (lenOf own_pd__28__29_Z rfl) rfl (by show 2 * 0 + _ ≤ _; exact Nat.le_of_eq rfl) (hb hby at_56) (fun _ _ => ⟨rfl, e25, (by decide : 2 + 0 ≤ _), (by decide : 6 + 0 ≤ _)⟩)
    dsimp only [Pt.U, Pt.locs, Pt.cells, Pt.slots] at X27 l27 y27 z27 st27 hQ27
    subst l27 y27 z27
    obtain ⟨rfl, Nq27, e27⟩ := hQ27
    have N27 := Fr.app N25 Nq27
    refine own_Goes.tr st27 ?_
    show own_Goes p.tables e below P (T27.setTop (mkF m 59 #[.val (.int p0), .val (.int p1), .val (.int p2), .val (.double dv), .second, .val (.ref a1), .val (.ref a10), .val (.int (0 : Int32)), .val (.int (0 : Int32)), .unset] [(.int (own_bd (p0 ^^^ (1 : Int32))))]))
    rw [(own_bd1 (by have q := own_even h1; have z := own_x p0; omega : (p0 ^^^ (1 : Int32)).toInt % 2 = 1))]
    show own_Goes p.tables e below P (T27.setTop (mkF m 59 #[.val (.int p0), .val (.int p1), .val (.int p2), .val (.double dv), .second, .val (.ref a1), .val (.ref a10), .val (.int (0 : Int32)), .val (.int (0 : Int32)), .unset] [(.int (1 : Int32))]))
    refine own_Goes.st ?_ (fun _ k => XS.istore X27.here hx rfl (hb hby at_59) rfl (l' := #[.val (.int p0), .val (.int p1), .val (.int p2), .val (.double dv), .second, .val (.ref a1), .val (.ref a10), .val (.int (0 : Int32)), .val (.int (0 : Int32)), .val (.int (1 : Int32))]) rfl k)
    show own_Goes p.tables e below P (T27.setTop (mkF m 61 #[.val (.int p0), .val (.int p1), .val (.int p2), .val (.double dv), .second, .val (.ref a1), .val (.ref a10), .val (.int (0 : Int32)), .val (.int (0 : Int32)), .val (.int (1 : Int32))] []))
    refine own_Goes.st ?_ (fun _ k => XS.iload X27.here hx rfl (hb hby at_61) rfl k)
    show own_Goes p.tables e below P (T27.setTop (mkF m 63 #[.val (.int p0), .val (.int p1), .val (.int p2), .val (.double dv), .second, .val (.ref a1), .val (.ref a10), .val (.int (0 : Int32)), .val (.int (0 : Int32)), .val (.int (1 : Int32))] [(.int (0 : Int32))]))
    refine own_Goes.st ?_ (fun _ k => XS.iload X27.here hx rfl (hb hby at_63) rfl k)
    show own_Goes p.tables e below P (T27.setTop (mkF m 65 #[.val (.int p0), .val (.int p1), .val (.int p2), .val (.double dv), .second, .val (.ref a1), .val (.ref a10), .val (.int (0 : Int32)), .val (.int (0 : Int32)), .val (.int (1 : Int32))] [(.int (0 : Int32)), (.int (0 : Int32))]))
    refine own_Goes.st ?_ (fun _ k => XS.icmpNo X27.here hx rfl (hb hby at_65) rfl (teq (by decide : (0 : Int32) = (0 : Int32))).2 k)
    show own_Goes p.tables e below P (T27.setTop (mkF m 68 #[.val (.int p0), .val (.int p1), .val (.int p2), .val (.double dv), .second, .val (.ref a1), .val (.ref a10), .val (.int (0 : Int32)), .val (.int (0 : Int32)), .val (.int (1 : Int32))] []))
    refine own_Goes.st ?_ (fun _ k => XS.iload X27.here hx rfl (hb hby at_68) rfl k)
    show own_Goes p.tables e below P (T27.setTop (mkF m 70 #[.val (.int p0), .val (.int p1), .val (.int p2), .val (.double dv), .second, .val (.ref a1), .val (.ref a10), .val (.int (0 : Int32)), .val (.int (0 : Int32)), .val (.int (1 : Int32))] [(.int (1 : Int32))]))
    refine own_Goes.st ?_ (fun _ k => XS.iload X27.here hx rfl (hb hby at_70) rfl k)
    show own_Goes p.tables e below P (T27.setTop (mkF m 72 #[.val (.int p0), .val (.int p1), .val (.int p2), .val (.double dv), .second, .val (.ref a1), .val (.ref a10), .val (.int (0 : Int32)), .val (.int (0 : Int32)), .val (.int (1 : Int32))] [(.int (0 : Int32)), (.int (1 : Int32))]))
    refine own_Goes.st ?_ (fun _ k => XS.ifNo X27.here hx rfl (hb hby at_72) rfl ((if0 _ _).trans (teq (by decide : (0 : Int32) = (0 : Int32))).2) k)
    show own_Goes p.tables e below P (T27.setTop (mkF m 75 #[.val (.int p0), .val (.int p1), .val (.int p2), .val (.double dv), .second, .val (.ref a1), .val (.ref a10), .val (.int (0 : Int32)), .val (.int (0 : Int32)), .val (.int (1 : Int32))] [(.int (1 : Int32))]))
    refine own_Goes.st ?_ (fun _ k => XS.iconst X27.here hx rfl (hb hby at_75) k)
    show own_Goes p.tables e below P (T27.setTop (mkF m 76 #[.val (.int p0), .val (.int p1), .val (.int p2), .val (.double dv), .second, .val (.ref a1), .val (.ref a10), .val (.int (0 : Int32)), .val (.int (0 : Int32)), .val (.int (1 : Int32))] [(.int (1 : Int32)), (.int (1 : Int32))]))
    refine own_Goes.st ?_ (fun _ k => XS.goto X27.here hx rfl (pc0 := 76) (pc' := 80) rfl (hb hby at_76) (by decide) (by decide) k)
    show own_Goes p.tables e below P (T27.setTop (mkF m 80 #[.val (.int p0), .val (.int p1), .val (.int p2), .val (.double dv), .second, .val (.ref a1), .val (.ref a10), .val (.int (0 : Int32)), .val (.int (0 : Int32)), .val (.int (1 : Int32))] [(.int (1 : Int32)), (.int (1 : Int32))]))
    refine own_Goes.st ?_ (fun _ k => XS.icmpNo X27.here hx rfl (hb hby at_80) rfl (teq (by decide : (1 : Int32) = (1 : Int32))).2 k)
    show own_Goes p.tables e below P (T27.setTop (mkF m 83 #[.val (.int p0), .val (.int p1), .val (.int p2), .val (.double dv), .second, .val (.ref a1), .val (.ref a10), .val (.int (0 : Int32)), .val (.int (0 : Int32)), .val (.int (1 : Int32))] []))
    refine own_Goes.st ?_ (fun _ k => XS.iconst X27.here hx rfl (hb hby at_83) k)
    show own_Goes p.tables e below P (T27.setTop (mkF m 84 #[.val (.int p0), .val (.int p1), .val (.int p2), .val (.double dv), .second, .val (.ref a1), .val (.ref a10), .val (.int (0 : Int32)), .val (.int (0 : Int32)), .val (.int (1 : Int32))] [(.int (1 : Int32))]))
    refine own_Goes.st ?_ (fun _ k => XS.goto X27.here hx rfl (pc0 := 84) (pc' := 88) rfl (hb hby at_84) (by decide) (by decide) k)
    show own_Goes p.tables e below P (T27.setTop (mkF m 88 #[.val (.int p0), .val (.int p1), .val (.int p2), .val (.double dv), .second, .val (.ref a1), .val (.ref a10), .val (.int (0 : Int32)), .val (.int (0 : Int32)), .val (.int (1 : Int32))] [(.int (1 : Int32))]))
    obtain ⟨fs, hr, hrun, hended, hW, hsame⟩ := X27.leave (v := some (.int (1 : Int32))) (fun h => by rw [Bd.returns] at h; cases h)
    exact own_Goes.fin _ _ (retOut X27 hx (t := .boolean) Bd.returns rfl (Or.inl ⟨rfl, Or.inr (Or.inl rfl), _, rfl⟩) (hb hby at_88) hr) (hPP _ _ ⟨hrun, hended, _, _, rfl, (by show Q_law n0 _ _; exact ⟨rfl, N27⟩), ⟨_, rfl⟩, hW, hsame.mono (by decide) (by decide)⟩)
set_option maxRecDepth 65536 in
set_option maxHeartbeats 40000000 in
theorem comes_1 {Post : Tables → Env → Array Value → State → Outcome → State → Prop} (hpost : ∀ tb e args s v u, (limb_1_1.after args s (.returned v) u = true ∧ limb_1_2.after args s (.returned v) u = true ∧ True) → FrameEnd s (.returned v) u (Jvm.fieldLocs frame_1_writes args s ++ Jvm.arrayLocs frame_1_arrays args s ++ Jvm.staticLocs frame_1_statics s) 16 128 → Post tb e args s (.returned v) u) :
    ArmFor flags0 classFile x code maxLocals ret World_1 tables_1 room_1 Calls_1 rest_1 Pre_1 Post := by
  intro l hfl _ _ p e ha hc hk s m args below hf hA hF happ hP
  obtain ⟨hcalls, hrest, hpre⟩ := hP
  obtain ⟨-, -, -, hnamed, -, -, -, hat⟩ := (Spec.applies_iff hf).mp happ
  obtain ⟨hg, hn⟩ := and_e (Cond.before_iff.mp (show (Jvm.Cond.and given_1 narrow_1).before args s = true from hpre))
  obtain ⟨hg0, hg1⟩ := and_e hg
  obtain ⟨hv0, hr0⟩ := and_e hg1
  obtain ⟨hv1, hr1⟩ := and_e hr0
  obtain ⟨w0, w1, w2, rfl⟩ : ∃ w0 w1 w2 : Value, args = #[w0, w1, w2] := by
    have hs : args.size = 3 := by simpa [Cond.value, given_1] using hg0
    obtain ⟨L⟩ := args
    match L, hs with
    | [w0, w1, w2], _ => exact ⟨w0, w1, w2, rfl⟩
  have hw := fun d (hd : d ∈ tables_1) => atoms_spec (ws := Jvm.Cond.code x code maxLocals ret :: tables_1) hat d (List.mem_cons_of_mem _ hd)
  have hfit : Fit s := fun {y c} hc i hi => by
    obtain ⟨ha, rfl⟩ := Array.getElem?_eq_some_iff.mp hc
    have q := List.all_eq_true.mp ((Array.all_eq_true_iff_forall_mem.mp hF) _ (Array.getElem_mem ha)) i (List.mem_range.mpr hi)
    simpa [Array.getElem?_eq_getElem hi] using q
  obtain ⟨i0, ei0⟩ := is_v hv0
  obtain rfl : w0 = (.int i0) := Option.some.inj ei0
  obtain ⟨i1, ei1⟩ := is_v hv1
  obtain rfl : w1 = (.int i1) := Option.some.inj ei1
  obtain ⟨i2, ei2⟩ := is_v hr1
  obtain rfl : w2 = (.int i2) := Option.some.inj ei2
  obtain ⟨n, o, h1, h2, h3, _, L, rfl, ⟨rfl, N⟩, hq⟩ := rm_law l s _ hw tables_1 i0 i1 i2  s.heap s.heap.size (Nat.le_refl _)  p e ha hc hk s m _ below hf ((Spec.applies_iff_loose hf).mp happ).1 ⟨rfl, State.Warmed39.refl s, rfl⟩ trivial
  refine ⟨n, _, h1, h2, h3, hpost _ _ _ _ _ _ ⟨Cond.after_iff.mpr rfl, Cond.after_iff.mpr (eq_i res_at (Term.int_eval (1)) rfl), trivial⟩ ⟨hq.1, hq.2.1, (hq.2.2.sift fun y hy => Or.inr (N y hy)).mono (by decide) (by decide)⟩⟩
theorem main_1_1 : Claimed_1_1 := comes_1 fun _ _ _ _ _ _ h hF => ⟨h.1, hF⟩
theorem main_1_2 : Claimed_1_2 := comes_1 fun _ _ _ _ _ _ h hF => ⟨h.2.1, hF⟩
end Jvm.Pilot.@@N@@
namespace Jvm.Pilot.@@N@@
open Jvm Jvm.ClassFile Sem Op Lib Jvm.Free Jvm.Stand Jvm.Pilot.@@N@@.Jvm.D
/-! MADE BY PROGRAM (witnessworld.py) out of the Statement's table words and the real class files: 10 classes; the members and pool entries that the words name. The judged class is class 1, her method 1. -/
namespace start1
open Jvm.ClassFile
def u (s : String) : CpInfo := .utf8 (stringToUtf16 s)
/-- a pool by its gaps: so many unusable entries, then the entry; so many at the end -/
def gap : Nat → List CpInfo → List CpInfo
  | 0, r => r
  | n + 1, r => .unusable :: gap n r
def poolList (es : List (Nat × CpInfo)) (last : Nat) : List CpInfo := es.foldr (fun e r => gap e.1 (e.2 :: r)) (gap last [])
def pool (es : List (Nat × CpInfo)) (last : Nat) : Array CpInfo := ⟨poolList es last⟩
def fileOf (pool : Array CpInfo) (this : Nat) (attrs : Array Attribute := #[]) (ms : Array MethodInfo := #[]) (fl : Nat := 33) (sup : Nat := 0) (ifs : Array Nat := #[]) (fds : Array FieldInfo := #[]) : ClassFile where
  minorVersion := 0
  majorVersion := 65
  constantPool := pool
  accessFlags := fl
  thisClass := this
  superClass := sup
  interfaces := ifs
  fields := fds
  methods := ms
  attributes := attrs
def plain (name : String) (sup : Option ClassId) : Class where
  name := name
  kind := .ordinary
  loader := none
  accessFlags := 33
  super := sup
  interfaces := #[]
  cf := none
  fields := #[]
  methods := #[]
  instanceTypes := #[]
  staticTypes := #[]
  resolved := #[]
  callSites := []
  init := .initialized
  statics := none
  mirror := none

def pool0 : Array CpInfo := pool [(5, u "<init>"), (0, u "()V"), (1, .class_ 10), (1, u "java/lang/Object")] 113

def k0c0 : Code := { maxStack := 0, maxLocals := 1, code := object_method_1_code, exceptionTable := #[], attributes := #[] }
def k0m0 : Method := { name := "<init>", desc := "()V", sig := { parameters := [], returnType := none }, accessFlags := 1, code := some k0c0 }
/-- java/lang/Object -/
def k0 : Class := { plain "java/lang/Object" none with
  accessFlags := 33
  interfaces := #[]
  cf := some (fileOf pool0 8 #[] #[{ accessFlags := 1, nameIndex := 5, descriptorIndex := 6, attributes := #[] }] 33 0 #[] #[])
  fields := #[]
  methods := #[k0m0]
  instanceTypes := #[]
  staticTypes := #[]
  resolved := Array.replicate 124 none
  statics := none }

def pool1 : Array CpInfo := pool [(2, .class_ 4), (1, u "java/lang/Object"), (0, u "<init>"), (0, u "()V"), (0, .class_ 8), (0, u "com/example/tempograph/tempograph/pcep/MetricObject"), (0, .methodref 7 10), (0, .nameAndType 5 11), (0, u "(IID)V"), (0, .methodref 7 13), (0, .nameAndType 14 15), (0, u "bound"), (0, u "()Z"), (0, .class_ 17), (0, u "com/example/tempograph/tempograph/pcep/MetricObjectBoundPinLaw"), (2, u "law"), (0, u "(III)Z")] 3

def k1m0 : Method := { name := "<init>", desc := "()V", sig := { parameters := [], returnType := none }, accessFlags := 2, code := none }
def k1c1 : Code := { maxStack := 6, maxLocals := 10, code := code, exceptionTable := #[], attributes := #[] }
def k1m1 : Method := { name := "law", desc := "(III)Z", sig := { parameters := [.int, .int, .int], returnType := some .boolean }, accessFlags := 9, code := some k1c1 }
/-- com/example/tempograph/tempograph/pcep/MetricObjectBoundPinLaw -/
def k1 : Class := { plain "com/example/tempograph/tempograph/pcep/MetricObjectBoundPinLaw" (some 0) with
  accessFlags := 49
  interfaces := #[]
  cf := some (fileOf pool1 16 #[] #[{ accessFlags := 2, nameIndex := 5, descriptorIndex := 6, attributes := #[] }, { accessFlags := 9, nameIndex := 20, descriptorIndex := 21, attributes := #[] }] 49 2 #[] #[])
  fields := #[]
  methods := #[k1m0, k1m1]
  instanceTypes := #[]
  staticTypes := #[]
  resolved := Array.replicate 25 none
  statics := none }

def pool2 : Array CpInfo := pool [(1, .methodref 2 3), (0, .class_ 4), (0, .nameAndType 5 6), (0, u "java/lang/Object"), (0, u "<init>"), (0, u "()V"), (0, .class_ 8), (0, u "java/lang/Record")] 13

def k2c0 : Code := { maxStack := 1, maxLocals := 1, code := jdk_30_method_1_code, exceptionTable := #[], attributes := #[] }
def k2m0 : Method := { name := "<init>", desc := "()V", sig := { parameters := [], returnType := none }, accessFlags := 4, code := some k2c0 }
/-- java/lang/Record -/
def k2 : Class := { plain "java/lang/Record" (some 0) with
  accessFlags := 1057
  interfaces := #[]
  cf := some (fileOf pool2 7 #[] #[{ accessFlags := 4, nameIndex := 5, descriptorIndex := 6, attributes := #[] }] 1057 2 #[] #[])
  fields := #[]
  methods := #[k2m0]
  instanceTypes := #[]
  staticTypes := #[]
  resolved := Array.replicate 22 none
  statics := none }

def pool3 : Array CpInfo := pool [(1, .methodref 2 3), (0, .class_ 4), (0, .nameAndType 5 6), (0, u "java/lang/Record"), (0, u "<init>"), (0, u "()V"), (0, .fieldref 8 9), (0, .class_ 10), (0, .nameAndType 11 12), (0, u "com/example/tempograph/tempograph/pcep/MetricObject"), (0, u "flags"), (0, u "I"), (0, .fieldref 8 14), (0, .nameAndType 15 12), (0, u "typeCode"), (0, .fieldref 8 17), (0, .nameAndType 18 19), (0, u "value"), (0, u "D"), (30, u "(IID)V"), (27, u "BOUND"), (2, u "COMPUTED"), (1, u "BODY"), (8, u "bound"), (0, u "()Z")] 29

def k3c0 : Code := { maxStack := 3, maxLocals := 5, code := prog_20_method_1_code, exceptionTable := #[], attributes := #[] }
def k3m0 : Method := { name := "<init>", desc := "(IID)V", sig := { parameters := [.int, .int, .double], returnType := none }, accessFlags := 0, code := some k3c0 }
def k3c1 : Code := { maxStack := 2, maxLocals := 1, code := prog_20_method_3_code, exceptionTable := #[], attributes := #[] }
def k3m1 : Method := { name := "bound", desc := "()Z", sig := { parameters := [], returnType := some .boolean }, accessFlags := 0, code := some k3c1 }
/-- com/example/tempograph/tempograph/pcep/MetricObject -/
def k3 : Class := { plain "com/example/tempograph/tempograph/pcep/MetricObject" (some 2) with
  accessFlags := 48
  interfaces := #[]
  cf := some (fileOf pool3 8 #[] #[{ accessFlags := 0, nameIndex := 5, descriptorIndex := 50, attributes := #[] }, { accessFlags := 0, nameIndex := 92, descriptorIndex := 93, attributes := #[] }] 48 2 #[] #[{ accessFlags := 18, nameIndex := 11, descriptorIndex := 12, attributes := #[] }, { accessFlags := 18, nameIndex := 15, descriptorIndex := 12, attributes := #[] }, { accessFlags := 18, nameIndex := 18, descriptorIndex := 19, attributes := #[] }, { accessFlags := 24, nameIndex := 78, descriptorIndex := 12, attributes := #[] }, { accessFlags := 24, nameIndex := 81, descriptorIndex := 12, attributes := #[] }, { accessFlags := 26, nameIndex := 83, descriptorIndex := 12, attributes := #[] }])
  fields := #[{ name := "flags", type := .int, accessFlags := 18, slot := 0, constantValue := 0 }, { name := "typeCode", type := .int, accessFlags := 18, slot := 1, constantValue := 0 }, { name := "value", type := .double, accessFlags := 18, slot := 2, constantValue := 0 }, { name := "BOUND", type := .int, accessFlags := 24, slot := 0, constantValue := 0 }, { name := "COMPUTED", type := .int, accessFlags := 24, slot := 1, constantValue := 0 }, { name := "BODY", type := .int, accessFlags := 26, slot := 2, constantValue := 0 }]
  methods := #[k3m0, k3m1]
  instanceTypes := #[.int, .int, .double]
  staticTypes := #[.int, .int, .int]
  resolved := Array.replicate 123 none
  statics := none }

def pool4 : Array CpInfo := pool [(1, u "java/lang/Cloneable"), (0, .class_ 1), (0, u "java/lang/Object"), (0, .class_ 3)] 3

/-- java/lang/Cloneable -/
def k4 : Class := { plain "java/lang/Cloneable" (some 0) with
  accessFlags := 1537
  interfaces := #[]
  cf := some (fileOf pool4 2 #[] #[] 1537 4 #[] #[])
  fields := #[]
  methods := #[]
  instanceTypes := #[]
  staticTypes := #[]
  resolved := Array.replicate 8 none
  statics := none }

def pool5 : Array CpInfo := pool [(1, u "java/io/Serializable"), (0, .class_ 1), (0, u "java/lang/Object"), (0, .class_ 3)] 3

/-- java/io/Serializable -/
def k5 : Class := { plain "java/io/Serializable" (some 0) with
  accessFlags := 1537
  interfaces := #[]
  cf := some (fileOf pool5 2 #[] #[] 1537 4 #[] #[])
  fields := #[]
  methods := #[]
  instanceTypes := #[]
  staticTypes := #[]
  resolved := Array.replicate 8 none
  statics := none }

/-- the primitive byte -/
def k6 : Class := { plain "byte" none with kind := .primitive 'B', accessFlags := 0x411 }
/-- [B -/
def k7 : Class := { plain "[B" (some 0) with kind := .array 6 .byte, interfaces := #[4, 5], accessFlags := 1041 }

/-- the primitive int -/
def k8 : Class := { plain "int" none with kind := .primitive 'I', accessFlags := 0x411 }
/-- [I -/
def k9 : Class := { plain "[I" (some 0) with kind := .array 8 .int, interfaces := #[4, 5], accessFlags := 1041 }

def heap : Heap := #[]
def classes : Array Class := #[k0, k1, k2, k3, k4, k5, k6, k7, k8, k9]
def interned : List (Array UInt16 × Addr) := []
def slotsUsed : Nat := 0
def theMethod : MethodId := ⟨1, 1⟩
def args0 : Array Value := #[.int 1, .int 2, .int 65]
def aboutOver (below : List Frame) : State where
  vm := { classes := classes, interned := interned.toArray }
  heap := heap
  slotsUsed := slotsUsed
  threads := #[{ frames := .invoking theMethod args0 :: below }]
def below0 : List Frame := [.native { method := ⟨0, 0⟩, args := #[] }]
def about1 : State := aboutOver below0
def p0 : Program := .bare "" "" ""
def e0 : Env := launch0.env 0 0 0
theorem w_frames : about1.frames = Frame.invoking theMethod args0 :: below0 := rfl
set_option maxRecDepth 65536 in
theorem w_args : argsFit about1.vm theMethod args0 = true := by decide +kernel
set_option maxRecDepth 65536 in
theorem w_heap : heapFits about1 = true := by decide +kernel
set_option maxRecDepth 65536 in
theorem w_runnable : about1.curStatus? = some .runnable := by decide +kernel
set_option maxRecDepth 65536 in
theorem w_alone : about1.alone = true := by decide +kernel
set_option maxRecDepth 65536 in
theorem w_named : about1.methodNamed? x = some theMethod := by decide +kernel
set_option maxRecDepth 65536 in
theorem w_hears : about1.hears theMethod below0 = true := by decide +kernel
set_option maxRecDepth 65536 in
theorem w_ripe : about1.ripe theMethod args0 below0 = true := by decide +kernel
theorem w_running : about1.status = .running := rfl
set_option maxRecDepth 65536 in
theorem w_room : about1.hasRoom e0.platform room_1 = true :=
  launch0.hasRoom_least _ room_1 (by decide +kernel) (by decide +kernel) (by decide +kernel) (by decide +kernel) (by decide +kernel) (by decide +kernel)
theorem allAtoms_all (ts : List Jvm.Cond) (a : Array Jvm.Value) (st : Jvm.State) : (allAtoms ts).before a st = ts.all (fun c => c.before a st) := by
  induction ts with
  | nil => rfl
  | cons c t ih =>
    show (Jvm.Cond.and c (allAtoms t)).before a st = _
    rw [Jvm.Cond.before_and, ih, List.all_cons]
def words1 : List Jvm.Cond := Jvm.Cond.code x code maxLocals ret :: tables_1
/-- a 'code' word, met by the world's own term for the bytes: nothing is compared byte by byte -/
theorem code_word {y : MethodName} {bytes : ByteArray} {mx : Nat} {rt : Option FieldType} {a : Array Value} {s : State} {m : MethodId} {meth : Method} {c : Code} (h1 : s.methodNamed? y = some m) (h2 : s.vm.method? m = some meth) (h3 : meth.code = some c) (h4 : c.code = bytes)
    (h5 : (c.maxLocals == mx && c.exceptionTable.isEmpty && decide (c.maxStack ≤ mostOperands) && decide (meth.sig.returnType = rt) && !meth.locks && decide (parseMethodDescriptor y.desc = some meth.sig)) = true) : (Jvm.Cond.code y bytes mx rt).before a s = true := by
  simp only [Bool.and_eq_true, beq_iff_eq, Bool.not_eq_true', decide_eq_true_eq] at h5
  obtain ⟨⟨⟨⟨⟨g1, g2⟩, g3⟩, g4⟩, g5⟩, g6⟩ := h5
  simp [Cond.before, Cond.holds, Cond.value, h1, h2, h3, h4, g1, g2, g3, g4, g5, g6]
def isCode : Jvm.Cond → Bool
  | .code _ _ _ _ => true
  | _ => false
theorem all_split {L : List Jvm.Cond} {P : Jvm.Cond → Bool} (h1 : L.all (fun c => isCode c || P c) = true) (h2 : ∀ c ∈ L.filter isCode, P c = true) : L.all P = true := by
  refine List.all_eq_true.mpr fun c hc => ?_
  have h := List.all_eq_true.mp h1 c hc
  rcases Bool.eq_false_or_eq_true (isCode c) with hi | hi
  · exact h2 c (List.mem_filter.mpr ⟨hc, hi⟩)
  · simpa [hi] using h
set_option maxRecDepth 65536 in
theorem w_c0 : (Jvm.Cond.code x code maxLocals ret).before args0 about1 = true := code_word (m := ⟨1, 1⟩) (meth := k1m1) (c := k1c1) (by decide +kernel) rfl rfl rfl (by decide +kernel)
set_option maxRecDepth 65536 in
theorem w_c1 : (Jvm.Cond.code ({ cls := "com/example/tempograph/tempograph/pcep/MetricObject", name := "<init>", desc := "(IID)V" } : Jvm.MethodName) prog_20_method_1_code (5 : Nat) (Option.none : Option Jvm.ClassFile.FieldType)).before args0 about1 = true := code_word (m := ⟨3, 0⟩) (meth := k3m0) (c := k3c0) (by decide +kernel) rfl rfl rfl (by decide +kernel)
set_option maxRecDepth 65536 in
theorem w_c2 : (Jvm.Cond.code ({ cls := "java/lang/Record", name := "<init>", desc := "()V" } : Jvm.MethodName) jdk_30_method_1_code (1 : Nat) (Option.none : Option Jvm.ClassFile.FieldType)).before args0 about1 = true := code_word (m := ⟨2, 0⟩) (meth := k2m0) (c := k2c0) (by decide +kernel) rfl rfl rfl (by decide +kernel)
set_option maxRecDepth 65536 in
theorem w_c3 : (Jvm.Cond.code ({ cls := "java/lang/Object", name := "<init>", desc := "()V" } : Jvm.MethodName) object_method_1_code (1 : Nat) (Option.none : Option Jvm.ClassFile.FieldType)).before args0 about1 = true := code_word (m := ⟨0, 0⟩) (meth := k0m0) (c := k0c0) (by decide +kernel) rfl rfl rfl (by decide +kernel)
set_option maxRecDepth 65536 in
theorem w_c4 : (Jvm.Cond.code ({ cls := "com/example/tempograph/tempograph/pcep/MetricObject", name := "bound", desc := "()Z" } : Jvm.MethodName) prog_20_method_3_code (1 : Nat) (Option.some Jvm.ClassFile.FieldType.boolean)).before args0 about1 = true := code_word (m := ⟨3, 1⟩) (meth := k3m1) (c := k3c1) (by decide +kernel) rfl rfl rfl (by decide +kernel)
def codes1 : List Jvm.Cond := [Jvm.Cond.code x code maxLocals ret, Jvm.Cond.code ({ cls := "com/example/tempograph/tempograph/pcep/MetricObject", name := "<init>", desc := "(IID)V" } : Jvm.MethodName) prog_20_method_1_code (5 : Nat) (Option.none : Option Jvm.ClassFile.FieldType), Jvm.Cond.code ({ cls := "java/lang/Record", name := "<init>", desc := "()V" } : Jvm.MethodName) jdk_30_method_1_code (1 : Nat) (Option.none : Option Jvm.ClassFile.FieldType), Jvm.Cond.code ({ cls := "java/lang/Object", name := "<init>", desc := "()V" } : Jvm.MethodName) object_method_1_code (1 : Nat) (Option.none : Option Jvm.ClassFile.FieldType), Jvm.Cond.code ({ cls := "com/example/tempograph/tempograph/pcep/MetricObject", name := "bound", desc := "()Z" } : Jvm.MethodName) prog_20_method_3_code (1 : Nat) (Option.some Jvm.ClassFile.FieldType.boolean)]
set_option maxRecDepth 65536 in
theorem codes_eq : words1.filter isCode = codes1 := rfl
theorem w_codes : ∀ c ∈ words1.filter isCode, c.before args0 about1 = true := by
  rw [codes_eq]
  intro c hc
  simp only [codes1, List.mem_cons, List.not_mem_nil, or_false] at hc
  rcases hc with rfl | rfl | rfl | rfl | rfl
  · exact w_c0
  · exact w_c1
  · exact w_c2
  · exact w_c3
  · exact w_c4
set_option maxRecDepth 65536 in
theorem w_t1 : (words1.take 24).all (fun c => isCode c || c.before args0 about1) = true := by decide +kernel
set_option maxRecDepth 65536 in
theorem w_t2 : (words1.drop 24).all (fun c => isCode c || c.before args0 about1) = true := by decide +kernel
theorem w_tables : (allAtoms (Jvm.Cond.code x code maxLocals ret :: tables_1)).before args0 about1 = true := by
  rw [allAtoms_all]
  show words1.all (fun c => c.before args0 about1) = true
  refine all_split ?_ w_codes
  rw [← List.take_append_drop 24 words1, List.all_append, w_t1, w_t2]
  rfl
set_option maxRecDepth 65536 in
theorem w_case : (Jvm.Cond.and given_1 narrow_1).before args0 about1 = true := by decide +kernel
theorem w_applies : (headSpec (Jvm.Cond.code x code maxLocals ret :: tables_1) room_1).applies x e0.platform about1 = true :=
  (Spec.applies_iff w_frames).mpr ⟨w_running, w_runnable, w_alone, w_named, w_hears, w_ripe, w_room, w_tables⟩
theorem atStart : AtStart classFile x code maxLocals ret World_1 tables_1 room_1 Calls_1 rest_1 Pre_1 launch0 p0 e0 about1 theMethod args0 below0 :=
  ⟨lists_1, trivial, launch0.admits_env _ _ _, launch0.least_env, fairChoices_fair.cas, fairChoices_fair.clock, w_frames, w_args, w_heap, w_applies, trivial, trivial, w_case⟩
end start1
theorem witness_1 : WitnessClaimed_1 := ⟨start1.p0, start1.e0, start1.about1, start1.theMethod, start1.args0, start1.below0, start1.atStart⟩
end Jvm.Pilot.@@N@@
