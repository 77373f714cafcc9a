import JvmDerived
import JvmDerived.Pilot.@@N@@Statement
import JvmDerived.Pilot.@@N@@Code
set_option linter.unusedVariables false
set_option linter.unusedSimpArgs false
namespace Jvm.RoadKit
open Sem ClassFile Op Lib Jvm.Stand Jvm.Free Jvm.LawKit
/-- the walk that stands at S comes to an end of which P holds -/
def own_Goes (tb : Tables) (e : Env) (below : List Frame) (P : State → Outcome → Prop) (S : State) : Prop := ∃ t o, Steps tb e below S t ∧ P t o
theorem own_Goes.of {tb : Tables} {e : Env} {below : List Frame} {P : State → Outcome → Prop} {S : State} (k : own_Goes tb e below P S) : ∃ t o, Steps tb e below S t ∧ P t o := k
theorem own_Goes.nm {tb : Tables} {e : Env} {below : List Frame} {P : State → Outcome → Prop} {S : State} (k : ∀ P' : State → Outcome → Prop, (∀ t o, P t o → P' t o) → own_Goes tb e below P' S) : own_Goes tb e below P S := k P fun _ _ q => q
theorem own_Goes.st {tb : Tables} {e : Env} {below : List Frame} {P : State → Outcome → Prop} {S S' : State} (k : own_Goes tb e below P S') (h : ∀ t, Steps tb e below S' t → Steps tb e below S t) : own_Goes tb e below P S := by
  obtain ⟨t, o, h1, h2⟩ := k; exact ⟨t, o, h t h1, h2⟩
theorem own_Goes.tr {tb : Tables} {e : Env} {below : List Frame} {P : State → Outcome → Prop} {S S' : State} (h : Steps tb e below S S') (k : own_Goes tb e below P S') : own_Goes tb e below P S := by
  obtain ⟨t, o, h1, h2⟩ := k; exact ⟨t, o, h.trans h1, h2⟩
theorem own_Goes.fin {tb : Tables} {e : Env} {below : List Frame} {P : State → Outcome → Prop} {S : State} (t : State) (o : Outcome) (h : Steps tb e below S t) (k : P t o) : own_Goes tb e below P S := ⟨t, o, h, k⟩
end Jvm.RoadKit
namespace Jvm.Pilot.@@N@@
open Jvm Jvm.ClassFile Sem Op Lib Jvm.Free Jvm.Stand Jvm.LawKit Jvm.RoadKit Bundle Jvm.Pilot.@@N@@.Jvm.D
theorem own_k (y kk : Int32) (h : (y &&& (2147483647 : Int32)) % (7 : Int32) = kk) : kk = 0 ∨ kk = 1 ∨ kk = 2 ∨ kk = 3 ∨ kk = 4 ∨ kk = 5 ∨ kk = 6 := by
  have m := c_mask y 2147483647 31 (by decide) (by decide)
  have q := (c_irem (y &&& 2147483647) 7 7 (by decide)).1 (by rw [m]; omega)
  rw [h] at q
  have c0 : (0 : Int32).toInt = 0 := by decide
  have c1 : (1 : Int32).toInt = 1 := by decide
  have c2 : (2 : Int32).toInt = 2 := by decide
  have c3 : (3 : Int32).toInt = 3 := by decide
  have c4 : (4 : Int32).toInt = 4 := by decide
  have c5 : (5 : Int32).toInt = 5 := by decide
  have c6 : (6 : Int32).toInt = 6 := by decide
  have g : kk.toInt = 0 ∨ kk.toInt = 1 ∨ kk.toInt = 2 ∨ kk.toInt = 3 ∨ kk.toInt = 4 ∨ kk.toInt = 5 ∨ kk.toInt = 6 := by omega
  simpa only [← Int32.toInt_inj, c0, c1, c2, c3, c4, c5, c6] using g
def own_imin (i j : Int32) : Int32 := if j < i then j else i
theorem own_ef_imin (m : MethodId) (x0 : Int32) (x1 : Int32) : entryFrame m #[(.int x0), (.int x1)] 2 = mkF m 0 #[.val (.int x0), .val (.int x1)] [] := by first | (simp [entryFrame, mkF, argsToLocals, Value.category]; done) | rfl
theorem own_d_jdk_29_method_69_0 : decode jdk_29_method_69_code 0 = .ok (.iload_n 0, 1) := by decide +kernel
theorem own_d_jdk_29_method_69_1 : decode jdk_29_method_69_code 1 = .ok (.iload_n 1, 1) := by decide +kernel
theorem own_d_jdk_29_method_69_2 : decode jdk_29_method_69_code 2 = .ok (.if_icmp .gt 7, 3) := by decide +kernel
theorem own_d_jdk_29_method_69_9 : decode jdk_29_method_69_code 9 = .ok (.iload_n 1, 1) := by decide +kernel
theorem own_d_jdk_29_method_69_10 : decode jdk_29_method_69_code 10 = .ok (.ireturn, 1) := by decide +kernel
theorem own_d_jdk_29_method_69_5 : decode jdk_29_method_69_code 5 = .ok (.iload_n 0, 1) := by decide +kernel
theorem own_d_jdk_29_method_69_6 : decode jdk_29_method_69_code 6 = .ok (.goto 4, 3) := by decide +kernel
def Q_imin (Z : State) (i : Int32) (j : Int32) (h0 : Heap) (n0 : Nat) (rv_ : Option Value) (h_ : Heap) (L_ : List Loc) : Prop := rv_ = some (.int (own_imin i j)) ∧ Fr n0 L_ ∧ h_ = h0
set_option maxRecDepth 65536 in
set_option maxHeartbeats 40000000 in
theorem rm_imin (l : Launch) (Z : State) (a0 : Array Value) (hw : ∀ d ∈ tables_1, d.before a0 Z = true) (ws : List Jvm.Cond) (i : Int32) (j : Int32) (h0 : Heap) (n0 : Nat) (Z0 : n0 ≤ h0.size) :
    MetFree l (⟨"java/lang/Math", "min", "(II)I"⟩ : MethodName) (head1 (Jvm.Cond.code (⟨"java/lang/Math", "min", "(II)I"⟩ : MethodName) jdk_29_method_69_code 2 (some .int) :: ws) ({ frames := 0, cells := 0, slots := 0, locals := 0 } : Room)) (fun as_ U => as_ = #[(.int i), (.int j)] ∧ Z.Warmed39 U.vm ∧ U.heap = h0) (fun _ _ _ _ _ => True) (fun _ U o U' => ∃ rv_ L_, o = .returned rv_ ∧ Q_imin Z i j h0 n0 rv_ U'.heap L_ ∧ FrameEnd U o U' L_ ({ frames := 0, cells := 0, slots := 0, locals := 0 } : Room).cells ({ frames := 0, cells := 0, slots := 0, locals := 0 } : Room).slots) := by
  refine MetFree.of_bodySF (by decide +kernel) hisR ?_
  intro p e s m args below meth c s₁ Bd hml0 hP hK
  obtain ⟨rfl, hZ, hh⟩ := hP
  have hx := Bd.exec
  have hby := Bd.bytes
  have hml : c.maxLocals = 2 := hml0
  have hown : s.vm.findClass "java/lang/Math" = some m.cls := findClass_of_methodNamed Bd.named
  have hnm := (name_of_methodNamed Bd.named Bd.method).1
  have X0 : Stand p l e ({ frames := 0, cells := 0, slots := 0, locals := 0 } : Room) s m #[(.int i), (.int j)] below meth c s₁ [] 0 0 := Stand.of_body Bd
  have e0 : s₁.heap = h0 := by rw [← hh, Bd.state]; rfl
  have N0 := Fr.nil n0
  refine own_Goes.of ?_
  refine own_Goes.nm (fun P hPP => ?_)
  refine own_Goes.st ?_ (fun _ k => castTop (own_ef_imin m i j) k)
  show own_Goes p.tables e below P (s₁.setTop (mkF m 0 #[.val (.int i), .val (.int j)] []))
  refine own_Goes.st ?_ (fun _ k => XS.iloadN X0.here hx rfl (hb hby own_d_jdk_29_method_69_0) rfl k)
  show own_Goes p.tables e below P (s₁.setTop (mkF m 1 #[.val (.int i), .val (.int j)] [(.int i)]))
  refine own_Goes.st ?_ (fun _ k => XS.iloadN X0.here hx rfl (hb hby own_d_jdk_29_method_69_1) rfl k)
  show own_Goes p.tables e below P (s₁.setTop (mkF m 2 #[.val (.int i), .val (.int j)] [(.int j), (.int i)]))
  by_cases h1 : j < i
  · skip
    refine own_Goes.st ?_ (fun _ k => XS.icmpYes X0.here hx rfl (pc0 := 2) (pc' := 9) rfl (hb hby own_d_jdk_29_method_69_2) rfl (tlt h1).2.2.1 (by decide) (by decide) k)
    show own_Goes p.tables e below P (s₁.setTop (mkF m 9 #[.val (.int i), .val (.int j)] []))
    refine own_Goes.st ?_ (fun _ k => XS.iloadN X0.here hx rfl (hb hby own_d_jdk_29_method_69_9) rfl k)
    show own_Goes p.tables e below P (s₁.setTop (mkF m 10 #[.val (.int i), .val (.int j)] [(.int j)]))
    obtain ⟨fs, hr, hrun, hended, hW, hsame⟩ := X0.leave (v := some (.int j)) (fun h => by rw [Bd.returns] at h; cases h)
    exact own_Goes.fin _ _ (retOut X0 hx (t := .int) Bd.returns rfl (Or.inl ⟨rfl, Or.inl rfl, _, rfl⟩) (hb hby own_d_jdk_29_method_69_10) hr) (hPP _ _ ⟨hrun, hended, _, _, rfl, (by show Q_imin Z i j h0 n0 _ s₁.heap _; rw [e0]; exact ⟨(by rw [own_imin, if_pos h1]), N0, rfl⟩), ⟨_, rfl⟩, hW, hsame.mono (by decide) (by decide)⟩)
  · skip
    refine own_Goes.st ?_ (fun _ k => XS.icmpNo X0.here hx rfl (hb hby own_d_jdk_29_method_69_2) rfl (flt h1).2.2.1 k)
    show own_Goes p.tables e below P (s₁.setTop (mkF m 5 #[.val (.int i), .val (.int j)] []))
    refine own_Goes.st ?_ (fun _ k => XS.iloadN X0.here hx rfl (hb hby own_d_jdk_29_method_69_5) rfl k)
    show own_Goes p.tables e below P (s₁.setTop (mkF m 6 #[.val (.int i), .val (.int j)] [(.int i)]))
    refine own_Goes.st ?_ (fun _ k => XS.goto X0.here hx rfl (pc0 := 6) (pc' := 10) rfl (hb hby own_d_jdk_29_method_69_6) (by decide) (by decide) k)
    show own_Goes p.tables e below P (s₁.setTop (mkF m 10 #[.val (.int i), .val (.int j)] [(.int i)]))
    obtain ⟨fs, hr, hrun, hended, hW, hsame⟩ := X0.leave (v := some (.int i)) (fun h => by rw [Bd.returns] at h; cases h)
    exact own_Goes.fin _ _ (retOut X0 hx (t := .int) Bd.returns rfl (Or.inl ⟨rfl, Or.inl rfl, _, rfl⟩) (hb hby own_d_jdk_29_method_69_10) hr) (hPP _ _ ⟨hrun, hended, _, _, rfl, (by show Q_imin Z i j h0 n0 _ s₁.heap _; rw [e0]; exact ⟨(by rw [own_imin, if_neg h1]), N0, rfl⟩), ⟨_, rfl⟩, hW, hsame.mono (by decide) (by decide)⟩)
theorem own_ef_ctor (m : MethodId) (x0 : Addr) : entryFrame m #[(.ref x0)] 1 = mkF m 0 #[.val (.ref x0)] [] := by first | (simp [entryFrame, mkF, argsToLocals, Value.category]; done) | rfl
theorem own_pn_com_example_usnea_usnea_datalog_IntList : plainName "com/example/usnea/usnea/datalog/IntList" = true := by first | (simp [plainName, overriddenIn]; done) | decide +kernel
theorem own_d_prog_11_method_1_0 : decode prog_11_method_1_code 0 = .ok (.aload_n 0, 1) := by decide +kernel
theorem own_d_prog_11_method_1_1 : decode prog_11_method_1_code 1 = .ok (.invokespecial 1, 3) := by decide +kernel
theorem own_d_prog_11_method_1_4 : decode prog_11_method_1_code 4 = .ok (.aload_n 0, 1) := by decide +kernel
theorem own_d_prog_11_method_1_5 : decode prog_11_method_1_code 5 = .ok (.iconst 4, 1) := by decide +kernel
theorem own_d_prog_11_method_1_6 : decode prog_11_method_1_code 6 = .ok (.newarray .int, 2) := by decide +kernel
theorem own_d_prog_11_method_1_8 : decode prog_11_method_1_code 8 = .ok (.putfield 7, 3) := by decide +kernel
theorem own_d_prog_11_method_1_11 : decode prog_11_method_1_code 11 = .ok (.return_, 1) := by decide +kernel
def Q_ctor (Z : State) (a : Addr) (u1 : Value) (h0 : Heap) (n0 : Nat) (rv_ : Option Value) (h_ : Heap) (L_ : List Loc) : Prop := ∃ (b : Addr) (k : ClassId), rv_ = none ∧ Fr n0 L_ ∧ Keep h0 h_ [a] ∧ (Exa Z h_ a "com/example/usnea/usnea/datalog/IntList") ∧ (Fld Z h_ a "com/example/usnea/usnea/datalog/IntList" "values" "[I" (.ref b)) ∧ (Fld Z h_ a "com/example/usnea/usnea/datalog/IntList" "size" "I" (.int (0 : Int32))) ∧ (h0.size ≤ b) ∧ (Arv Z h_ b k .int (4 : Int32) [(.int (0 : Int32)), (.int (0 : Int32)), (.int (0 : Int32)), (.int (0 : Int32))] (.int 0)) ∧ (Exa Z h_ b "[I")
set_option maxRecDepth 65536 in
set_option maxHeartbeats 40000000 in
theorem rm_ctor (l : Launch) (Z : State) (a0 : Array Value) (hw : ∀ d ∈ tables_1, d.before a0 Z = true) (ws : List Jvm.Cond) (a : Addr) (u1 : Value) (h0 : Heap) (n0 : Nat) (Z0 : n0 ≤ h0.size) (pr0 : Exa Z h0 a "com/example/usnea/usnea/datalog/IntList") (pr1 : Fld Z h0 a "com/example/usnea/usnea/datalog/IntList" "values" "[I" u1) (pr2 : Fld Z h0 a "com/example/usnea/usnea/datalog/IntList" "size" "I" (.int (0 : Int32))) (pr3 : n0 ≤ a) :
    MetFree l (⟨"com/example/usnea/usnea/datalog/IntList", "<init>", "()V"⟩ : MethodName) (head1 (Jvm.Cond.code (⟨"com/example/usnea/usnea/datalog/IntList", "<init>", "()V"⟩ : MethodName) prog_11_method_1_code 1 none :: ws) ({ frames := 1, cells := 1, slots := 4, locals := 12 } : Room)) (fun as_ U => as_ = #[(.ref a)] ∧ Z.Warmed39 U.vm ∧ U.heap = h0) (fun _ _ _ _ _ => True) (fun _ U o U' => ∃ rv_ L_, o = .returned rv_ ∧ Q_ctor Z a u1 h0 n0 rv_ U'.heap L_ ∧ FrameEnd U o U' L_ ({ frames := 1, cells := 1, slots := 4, locals := 12 } : Room).cells ({ frames := 1, cells := 1, slots := 4, locals := 12 } : Room).slots) := by
  refine MetFree.of_bodySF (plainFor_of_name own_pn_com_example_usnea_usnea_datalog_IntList) hisR ?_
  intro p e s m args below meth c s₁ Bd hml0 hP hK
  obtain ⟨rfl, hZ, hh⟩ := hP
  have hx := Bd.exec
  have hby := Bd.bytes
  have hml : c.maxLocals = 1 := hml0
  have hown : s.vm.findClass "com/example/usnea/usnea/datalog/IntList" = some m.cls := findClass_of_methodNamed Bd.named
  have hnm := (name_of_methodNamed Bd.named Bd.method).1
  have X0 : Stand p l e ({ frames := 1, cells := 1, slots := 4, locals := 12 } : Room) s m #[(.ref a)] below meth c s₁ [] 0 0 := Stand.of_body Bd
  have e0 : s₁.heap = h0 := by rw [← hh, Bd.state]; rfl
  have N0 := Fr.nil n0
  refine own_Goes.of ?_
  refine own_Goes.nm (fun P hPP => ?_)
  refine own_Goes.st ?_ (fun _ k => castTop (own_ef_ctor m a) k)
  have K0 : Keep h0 h0 [a] := Keep.refl _ _
  show own_Goes p.tables e below P (s₁.setTop (mkF m 0 #[.val (.ref a)] []))
  refine own_Goes.st ?_ (fun _ k => XS.aloadN X0.here hx rfl (hb hby own_d_prog_11_method_1_0) rfl rfl k)
  show own_Goes p.tables e below P (s₁.setTop (mkF m 1 #[.val (.ref a)] [(.ref a)]))
  obtain ⟨T1, X1, e1, st1⟩ := initO X0 hx hZ hown (hw _ (List.mem_of_getElem? (i := 8) rfl)) (hw _ (List.mem_of_getElem? (i := 9) rfl)) (hw _ (List.mem_of_getElem? (i := 10) rfl)) e0 (g := (mkF m 1 #[.val (.ref a)] [(.ref a)])) rfl (by rw [hml]; rfl) rfl (hb hby own_d_prog_11_method_1_1) (by decide) (W := 0) (by show 2 * 0 + _ ≤ _; exact Nat.le_of_eq rfl) (by decide)
  refine own_Goes.st ?_ st1
  show own_Goes p.tables e below P (T1.setTop (mkF m 4 #[.val (.ref a)] []))
  refine own_Goes.st ?_ (fun _ k => XS.aloadN X1.here hx rfl (hb hby own_d_prog_11_method_1_4) rfl rfl k)
  show own_Goes p.tables e below P (T1.setTop (mkF m 5 #[.val (.ref a)] [(.ref a)]))
  refine own_Goes.st ?_ (fun _ k => XS.iconst X1.here hx rfl (hb hby own_d_prog_11_method_1_5) k)
  show own_Goes p.tables e below P (T1.setTop (mkF m 6 #[.val (.ref a)] [(.int (4 : Int32)), (.ref a)]))
  obtain ⟨T2, h2, k2, X2, e2, E2, A2, J2, st2⟩ := newPE X1 hx hZ (hw _ (List.mem_of_getElem? (i := 11) rfl)) e1 (g := (mkF m 6 #[.val (.ref a)] [(.int (4 : Int32)), (.ref a)])) rfl (hb hby own_d_prog_11_method_1_6) rfl (by decide) (cap := 4) (by decide) (by decide) (by decide) (by decide) (ad := "[I") rfl
  obtain ⟨b2, g2⟩ : ∃ z, z = h0.size := ⟨_, rfl⟩
  rw [← g2] at A2 J2 st2
  have ne3 : a ≠ b2 := Nat.ne_of_lt (Nat.lt_of_lt_of_eq pr0.lt g2.symm)
  have ge_b2 : n0 ≤ b2 := Nat.le_trans Z0 (Nat.le_of_eq g2.symm)
  have sz_b2 : h0.size ≤ b2 := Nat.le_trans K0.1 (Nat.le_of_eq g2.symm)
  refine own_Goes.st ?_ st2
  have Z4 : n0 ≤ h2.size := Nat.le_trans Z0 E2.1
  have K5 := K0.ext E2
  have V6 : Arv Z h2 b2 k2 .int (4 : Int32) [(.int (0 : Int32)), (.int (0 : Int32)), (.int (0 : Int32)), (.int (0 : Int32))] (.int 0) := (Arv.new A2 (by decide)).pad (pad_rep [] _ 4)
  show own_Goes p.tables e below P (T2.setTop (mkF m 8 #[.val (.ref a)] [(.ref b2), (.ref a)]))
  have F7 : Fld Z h2 a "com/example/usnea/usnea/datalog/IntList" "values" "[I" u1 := (pr1.ext E2)
  have F8 : Exa Z h2 a "com/example/usnea/usnea/datalog/IntList" := (pr0.ext E2)
  obtain ⟨T9, h9, X9, e9, W9, st9⟩ := putF X2 hx hZ hown (host := "") (Or.inl (hw _ (List.mem_of_getElem? (i := 12) rfl))) Via.refl e2 F7 F8 (Or.inl (hw _ (List.mem_of_getElem? (i := 13) rfl))) (hw _ (List.mem_of_getElem? (i := 3) rfl)) (ty := (.array .int)) (by decide) rfl rfl (g := (mkF m 8 #[.val (.ref a)] [(.ref b2), (.ref a)])) rfl rfl (hb hby own_d_prog_11_method_1_8)
  refine own_Goes.st ?_ st9
  have F10 : Fld Z h9 a "com/example/usnea/usnea/datalog/IntList" "values" "[I" (.ref b2) := F7.same W9
  have Z11 : n0 ≤ h9.size := by rw [W9.size]; exact Z4
  have K12 := K5.wr W9 (Or.inl (List.mem_of_getElem? (i := 0) rfl))
  have N13 := Fr.snoc X9 N0 pr3
  show own_Goes p.tables e below P (T9.setTop (mkF m 11 #[.val (.ref a)] []))
  obtain ⟨fs, hr, hrun, hended, hW, hsame⟩ := X9.leave (v := none) (fun _ => rfl)
  have F14 : Exa Z h9 a "com/example/usnea/usnea/datalog/IntList" := (F8.wr W9)
  have F15 : Fld Z h9 a "com/example/usnea/usnea/datalog/IntList" "size" "I" (.int (0 : Int32)) := ((pr2.ext E2).other W9 (Or.inr (slot_ne (Or.inl (hw _ (List.mem_of_getElem? (i := 20) rfl))) (Or.inl (hw _ (List.mem_of_getElem? (i := 13) rfl))) (by decide) (t := .int) (t' := (.array .int)) (by decide) (by decide))))
  have F16 : Arv Z h9 b2 k2 .int (4 : Int32) [(.int (0 : Int32)), (.int (0 : Int32)), (.int (0 : Int32)), (.int (0 : Int32))] (.int 0) := (V6.other W9 (Ne.symm ne3))
  have F17 : Exa Z h9 b2 "[I" := (J2.wr W9)
  exact own_Goes.fin _ _ (X9.returnOut hx Bd.returns (hb hby own_d_prog_11_method_1_11) hr) (hPP _ _ ⟨hrun, hended, _, _, rfl, (by show Q_ctor Z a u1 h0 n0 _ T9.heap _; rw [e9]; exact ⟨b2, k2, rfl, N13, K12, F14, F10, F15, sz_b2, F16, F17⟩), ⟨_, rfl⟩, hW, hsame.mono (by decide) (by decide)⟩)
theorem own_ef_add_0 (m : MethodId) (x0 : Addr) (x1 : Int32) : entryFrame m #[(.ref x0), (.int x1)] 2 = mkF m 0 #[.val (.ref x0), .val (.int x1)] [] := by first | (simp [entryFrame, mkF, argsToLocals, Value.category]; done) | rfl
theorem own_d_prog_11_method_5_0 : decode prog_11_method_5_code 0 = .ok (.aload_n 0, 1) := by decide +kernel
theorem own_d_prog_11_method_5_1 : decode prog_11_method_5_code 1 = .ok (.getfield 13, 3) := by decide +kernel
theorem own_d_prog_11_method_5_4 : decode prog_11_method_5_code 4 = .ok (.aload_n 0, 1) := by decide +kernel
theorem own_d_prog_11_method_5_5 : decode prog_11_method_5_code 5 = .ok (.getfield 7, 3) := by decide +kernel
theorem own_d_prog_11_method_5_8 : decode prog_11_method_5_code 8 = .ok (.arraylength, 1) := by decide +kernel
theorem own_d_prog_11_method_5_9 : decode prog_11_method_5_code 9 = .ok (.if_icmp .ne 20, 3) := by decide +kernel
theorem own_d_prog_11_method_5_29 : decode prog_11_method_5_code 29 = .ok (.aload_n 0, 1) := by decide +kernel
theorem own_d_prog_11_method_5_30 : decode prog_11_method_5_code 30 = .ok (.getfield 7, 3) := by decide +kernel
theorem own_d_prog_11_method_5_33 : decode prog_11_method_5_code 33 = .ok (.aload_n 0, 1) := by decide +kernel
theorem own_d_prog_11_method_5_34 : decode prog_11_method_5_code 34 = .ok (.dup, 1) := by decide +kernel
theorem own_d_prog_11_method_5_35 : decode prog_11_method_5_code 35 = .ok (.getfield 13, 3) := by decide +kernel
theorem own_d_prog_11_method_5_38 : decode prog_11_method_5_code 38 = .ok (.dup_x1, 1) := by decide +kernel
theorem own_d_prog_11_method_5_39 : decode prog_11_method_5_code 39 = .ok (.iconst 1, 1) := by decide +kernel
theorem own_d_prog_11_method_5_40 : decode prog_11_method_5_code 40 = .ok (.iadd, 1) := by decide +kernel
theorem own_d_prog_11_method_5_41 : decode prog_11_method_5_code 41 = .ok (.putfield 13, 3) := by decide +kernel
theorem own_d_prog_11_method_5_44 : decode prog_11_method_5_code 44 = .ok (.iload_n 1, 1) := by decide +kernel
theorem own_d_prog_11_method_5_45 : decode prog_11_method_5_code 45 = .ok (.iastore, 1) := by decide +kernel
theorem own_d_prog_11_method_5_46 : decode prog_11_method_5_code 46 = .ok (.return_, 1) := by decide +kernel
def Q_add_0 (Z : State) (a : Addr) (v : Int32) (b : Addr) (k : ClassId) (h0 : Heap) (n0 : Nat) (rv_ : Option Value) (h_ : Heap) (L_ : List Loc) : Prop := rv_ = none ∧ Fr n0 L_ ∧ Keep h0 h_ [a, b] ∧ (Exa Z h_ a "com/example/usnea/usnea/datalog/IntList") ∧ (Fld Z h_ a "com/example/usnea/usnea/datalog/IntList" "values" "[I" (.ref b)) ∧ (Fld Z h_ a "com/example/usnea/usnea/datalog/IntList" "size" "I" (.int (1 : Int32))) ∧ (Arv Z h_ b k .int (4 : Int32) [(.int v), (.int (0 : Int32)), (.int (0 : Int32)), (.int (0 : Int32))] (.int 0)) ∧ (Exa Z h_ b "[I")
set_option maxRecDepth 65536 in
set_option maxHeartbeats 40000000 in
theorem rm_add_0 (l : Launch) (Z : State) (a0 : Array Value) (hw : ∀ d ∈ tables_1, d.before a0 Z = true) (ws : List Jvm.Cond) (a : Addr) (v : Int32) (b : Addr) (k : ClassId) (h0 : Heap) (n0 : Nat) (Z0 : n0 ≤ h0.size) (pr0 : Exa Z h0 a "com/example/usnea/usnea/datalog/IntList") (pr1 : Fld Z h0 a "com/example/usnea/usnea/datalog/IntList" "values" "[I" (.ref b)) (pr2 : Fld Z h0 a "com/example/usnea/usnea/datalog/IntList" "size" "I" (.int (0 : Int32))) (pr3 : Arv Z h0 b k .int (4 : Int32) [(.int (0 : Int32)), (.int (0 : Int32)), (.int (0 : Int32)), (.int (0 : Int32))] (.int 0)) (pr4 : Exa Z h0 b "[I") (pr5 : n0 ≤ a) (pr6 : n0 ≤ b) (pr7 : a ≠ b) :
    MetFree l (⟨"com/example/usnea/usnea/datalog/IntList", "add", "(I)V"⟩ : MethodName) (head1 (Jvm.Cond.code (⟨"com/example/usnea/usnea/datalog/IntList", "add", "(I)V"⟩ : MethodName) prog_11_method_5_code 2 none :: ws) ({ frames := 0, cells := 0, slots := 0, locals := 0 } : Room)) (fun as_ U => as_ = #[(.ref a), (.int v)] ∧ Z.Warmed39 U.vm ∧ U.heap = h0) (fun _ _ _ _ _ => True) (fun _ U o U' => ∃ rv_ L_, o = .returned rv_ ∧ Q_add_0 Z a v b k h0 n0 rv_ U'.heap L_ ∧ FrameEnd U o U' L_ ({ frames := 0, cells := 0, slots := 0, locals := 0 } : Room).cells ({ frames := 0, cells := 0, slots := 0, locals := 0 } : Room).slots) := by
  refine MetFree.of_bodySF (plainFor_of_name own_pn_com_example_usnea_usnea_datalog_IntList) hisR ?_
  intro p e s m args below meth c s₁ Bd hml0 hP hK
  obtain ⟨rfl, hZ, hh⟩ := hP
  have hx := Bd.exec
  have hby := Bd.bytes
  have hml : c.maxLocals = 2 := hml0
  have hown : s.vm.findClass "com/example/usnea/usnea/datalog/IntList" = some m.cls := findClass_of_methodNamed Bd.named
  have hnm := (name_of_methodNamed Bd.named Bd.method).1
  have X0 : Stand p l e ({ frames := 0, cells := 0, slots := 0, locals := 0 } : Room) s m #[(.ref a), (.int v)] below meth c s₁ [] 0 0 := Stand.of_body Bd
  have e0 : s₁.heap = h0 := by rw [← hh, Bd.state]; rfl
  have N0 := Fr.nil n0
  refine own_Goes.of ?_
  refine own_Goes.nm (fun P hPP => ?_)
  refine own_Goes.st ?_ (fun _ k => castTop (own_ef_add_0 m a v) k)
  have K0 : Keep h0 h0 [a, b] := Keep.refl _ _
  show own_Goes p.tables e below P (s₁.setTop (mkF m 0 #[.val (.ref a), .val (.int v)] []))
  refine own_Goes.st ?_ (fun _ k => XS.aloadN X0.here hx rfl (hb hby own_d_prog_11_method_5_0) rfl rfl k)
  show own_Goes p.tables e below P (s₁.setTop (mkF m 1 #[.val (.ref a), .val (.int v)] [(.ref a)]))
  obtain ⟨T1, X1, e1, st1⟩ := getF X0 hx hZ hown (host := "") (Or.inl (hw _ (List.mem_of_getElem? (i := 19) rfl))) Via.refl e0 pr2 (g := (mkF m 1 #[.val (.ref a), .val (.int v)] [(.ref a)])) rfl rfl (hb hby own_d_prog_11_method_5_1)
  refine own_Goes.st ?_ st1
  show own_Goes p.tables e below P (T1.setTop (mkF m 4 #[.val (.ref a), .val (.int v)] [(.int (0 : Int32))]))
  refine own_Goes.st ?_ (fun _ k => XS.aloadN X1.here hx rfl (hb hby own_d_prog_11_method_5_4) rfl rfl k)
  show own_Goes p.tables e below P (T1.setTop (mkF m 5 #[.val (.ref a), .val (.int v)] [(.ref a), (.int (0 : Int32))]))
  obtain ⟨T2, X2, e2, st2⟩ := getF X1 hx hZ hown (host := "") (Or.inl (hw _ (List.mem_of_getElem? (i := 12) rfl))) Via.refl e1 pr1 (g := (mkF m 5 #[.val (.ref a), .val (.int v)] [(.ref a), (.int (0 : Int32))])) rfl rfl (hb hby own_d_prog_11_method_5_5)
  refine own_Goes.st ?_ st2
  show own_Goes p.tables e below P (T2.setTop (mkF m 8 #[.val (.ref a), .val (.int v)] [(.ref b), (.int (0 : Int32))]))
  have Vc3 := pr3
  obtain ⟨cl3, Ar3, qc3, S3, Nn3, Hs3, Gs3⟩ := Vc3
  refine own_Goes.st ?_ (X2.arraylength hx (by rw [e2]; exact Ar3.1) (State.isArrayOf_alike hZ.alike Ar3.2.1) (g := (mkF m 8 #[.val (.ref a), .val (.int v)] [(.ref b), (.int (0 : Int32))])) rfl rfl (hb hby own_d_prog_11_method_5_8))
  rw [len_of S3 Nn3]
  show own_Goes p.tables e below P (T2.setTop (mkF m 9 #[.val (.ref a), .val (.int v)] [(.int (4 : Int32)), (.int (0 : Int32))]))
  refine own_Goes.st ?_ (fun _ k => XS.icmpYes X2.here hx rfl (pc0 := 9) (pc' := 29) rfl (hb hby own_d_prog_11_method_5_9) rfl (feq (by decide : ¬ ((0 : Int32) = (4 : Int32)))).2 (by decide) (by decide) k)
  show own_Goes p.tables e below P (T2.setTop (mkF m 29 #[.val (.ref a), .val (.int v)] []))
  refine own_Goes.st ?_ (fun _ k => XS.aloadN X2.here hx rfl (hb hby own_d_prog_11_method_5_29) rfl rfl k)
  show own_Goes p.tables e below P (T2.setTop (mkF m 30 #[.val (.ref a), .val (.int v)] [(.ref a)]))
  obtain ⟨T4, X4, e4, st4⟩ := getF X2 hx hZ hown (host := "") (Or.inl (hw _ (List.mem_of_getElem? (i := 12) rfl))) Via.refl e2 pr1 (g := (mkF m 30 #[.val (.ref a), .val (.int v)] [(.ref a)])) rfl rfl (hb hby own_d_prog_11_method_5_30)
  refine own_Goes.st ?_ st4
  show own_Goes p.tables e below P (T4.setTop (mkF m 33 #[.val (.ref a), .val (.int v)] [(.ref b)]))
  refine own_Goes.st ?_ (fun _ k => XS.aloadN X4.here hx rfl (hb hby own_d_prog_11_method_5_33) rfl rfl k)
  show own_Goes p.tables e below P (T4.setTop (mkF m 34 #[.val (.ref a), .val (.int v)] [(.ref a), (.ref b)]))
  refine own_Goes.st ?_ (fun _ k => XS.dup X4.here hx rfl (hb hby own_d_prog_11_method_5_34) rfl rfl k)
  show own_Goes p.tables e below P (T4.setTop (mkF m 35 #[.val (.ref a), .val (.int v)] [(.ref a), (.ref a), (.ref b)]))
  obtain ⟨T5, X5, e5, st5⟩ := getF X4 hx hZ hown (host := "") (Or.inl (hw _ (List.mem_of_getElem? (i := 19) rfl))) Via.refl e4 pr2 (g := (mkF m 35 #[.val (.ref a), .val (.int v)] [(.ref a), (.ref a), (.ref b)])) rfl rfl (hb hby own_d_prog_11_method_5_35)
  refine own_Goes.st ?_ st5
  show own_Goes p.tables e below P (T5.setTop (mkF m 38 #[.val (.ref a), .val (.int v)] [(.int (0 : Int32)), (.ref a), (.ref b)]))
  refine own_Goes.st ?_ (fun _ k => XS.dupX1 X5.here hx rfl (hb hby own_d_prog_11_method_5_38) rfl rfl rfl k)
  show own_Goes p.tables e below P (T5.setTop (mkF m 39 #[.val (.ref a), .val (.int v)] [(.int (0 : Int32)), (.ref a), (.int (0 : Int32)), (.ref b)]))
  refine own_Goes.st ?_ (fun _ k => XS.iconst X5.here hx rfl (hb hby own_d_prog_11_method_5_39) k)
  show own_Goes p.tables e below P (T5.setTop (mkF m 40 #[.val (.ref a), .val (.int v)] [(.int (1 : Int32)), (.int (0 : Int32)), (.ref a), (.int (0 : Int32)), (.ref b)]))
  refine own_Goes.st ?_ (fun _ k => XS.iadd X5.here hx rfl (hb hby own_d_prog_11_method_5_40) rfl k)
  show own_Goes p.tables e below P (T5.setTop (mkF m 41 #[.val (.ref a), .val (.int v)] [(.int (1 : Int32)), (.ref a), (.int (0 : Int32)), (.ref b)]))
  obtain ⟨T6, h6, X6, e6, W6, st6⟩ := putF X5 hx hZ hown (host := "") (Or.inl (hw _ (List.mem_of_getElem? (i := 19) rfl))) Via.refl e5 pr2 pr0 (Or.inl (hw _ (List.mem_of_getElem? (i := 20) rfl))) (hw _ (List.mem_of_getElem? (i := 3) rfl)) (ty := .int) (by decide) rfl rfl (g := (mkF m 41 #[.val (.ref a), .val (.int v)] [(.int (1 : Int32)), (.ref a), (.int (0 : Int32)), (.ref b)])) rfl rfl (hb hby own_d_prog_11_method_5_41)
  refine own_Goes.st ?_ st6
  have F7 : Fld Z h6 a "com/example/usnea/usnea/datalog/IntList" "size" "I" (.int (1 : Int32)) := pr2.same W6
  have Z8 : n0 ≤ h6.size := by rw [W6.size]; exact Z0
  have K9 := K0.wr W6 (Or.inl (List.mem_of_getElem? (i := 0) rfl))
  have N10 := Fr.snoc X6 N0 pr5
  show own_Goes p.tables e below P (T6.setTop (mkF m 44 #[.val (.ref a), .val (.int v)] [(.int (0 : Int32)), (.ref b)]))
  refine own_Goes.st ?_ (fun _ k => XS.iloadN X6.here hx rfl (hb hby own_d_prog_11_method_5_44) rfl k)
  show own_Goes p.tables e below P (T6.setTop (mkF m 45 #[.val (.ref a), .val (.int v)] [(.int v), (.int (0 : Int32)), (.ref b)]))
  have F11 : Arv Z h6 b k .int (4 : Int32) [(.int (0 : Int32)), (.int (0 : Int32)), (.int (0 : Int32)), (.int (0 : Int32))] (.int 0) := (pr3.other W6 (Ne.symm pr7))
  have Vc12 := F11
  obtain ⟨cl12, Ar12, qc12, S12, Nn12, Hs12, Gs12⟩ := Vc12
  have hin13 : ¬ ((0 : Int32) < 0 ∨ cl12.slots.size ≤ ((0 : Int32)).toNatClampNeg) := inb_of S12 ⟨by decide, by decide⟩
  obtain ⟨T13, h13, X13, e13, W13, st13⟩ := stI X6 hx hZ e6 Ar12 (j := (0 : Int32)) hin13 (g := (mkF m 45 #[.val (.ref a), .val (.int v)] [(.int v), (.int (0 : Int32)), (.ref b)])) rfl rfl (hb hby own_d_prog_11_method_5_45)
  refine own_Goes.st ?_ st13
  have V14 : Arv Z h13 b k .int (4 : Int32) [(.int v), (.int (0 : Int32)), (.int (0 : Int32)), (.int (0 : Int32))] (.int 0) := Arv.set Ar12 qc12 S12 Nn12 Hs12 Gs12 rfl W13 0 rfl (Nat.le_of_ble_eq_true rfl)
  have Z15 : n0 ≤ h13.size := by rw [W13.size]; exact Z8
  have K16 := K9.wr W13 (Or.inl (List.mem_of_getElem? (i := 1) rfl))
  have N17 := Fr.snoc X13 N10 pr6
  show own_Goes p.tables e below P (T13.setTop (mkF m 46 #[.val (.ref a), .val (.int v)] []))
  have F18 : Fld Z h13 a "com/example/usnea/usnea/datalog/IntList" "values" "[I" (.ref b) := ((pr1.other W6 (Or.inr (slot_ne (Or.inl (hw _ (List.mem_of_getElem? (i := 13) rfl))) (Or.inl (hw _ (List.mem_of_getElem? (i := 20) rfl))) (by decide) (t := (.array .int)) (t' := .int) (by decide) (by decide)))).other W13 (Or.inl pr7))
  obtain ⟨fs, hr, hrun, hended, hW, hsame⟩ := X13.leave (v := none) (fun _ => rfl)
  have F19 : Exa Z h13 a "com/example/usnea/usnea/datalog/IntList" := ((pr0.wr W6).wr W13)
  have F20 : Fld Z h13 a "com/example/usnea/usnea/datalog/IntList" "size" "I" (.int (1 : Int32)) := (F7.other W13 (Or.inl pr7))
  have F21 : Exa Z h13 b "[I" := ((pr4.wr W6).wr W13)
  exact own_Goes.fin _ _ (X13.returnOut hx Bd.returns (hb hby own_d_prog_11_method_5_46) hr) (hPP _ _ ⟨hrun, hended, _, _, rfl, (by show Q_add_0 Z a v b k h0 n0 _ T13.heap _; rw [e13]; exact ⟨rfl, N17, K16, F19, F18, F20, V14, F21⟩), ⟨_, rfl⟩, hW, hsame.mono (by decide) (by decide)⟩)
theorem own_ef_add_1 (m : MethodId) (x0 : Addr) (x1 : Int32) : entryFrame m #[(.ref x0), (.int x1)] 2 = mkF m 0 #[.val (.ref x0), .val (.int x1)] [] := by first | (simp [entryFrame, mkF, argsToLocals, Value.category]; done) | rfl
def Q_add_1 (Z : State) (a : Addr) (v : Int32) (b : Addr) (k : ClassId) (x0 : Int32) (h0 : Heap) (n0 : Nat) (rv_ : Option Value) (h_ : Heap) (L_ : List Loc) : Prop := rv_ = none ∧ Fr n0 L_ ∧ Keep h0 h_ [a, b] ∧ (Exa Z h_ a "com/example/usnea/usnea/datalog/IntList") ∧ (Fld Z h_ a "com/example/usnea/usnea/datalog/IntList" "values" "[I" (.ref b)) ∧ (Fld Z h_ a "com/example/usnea/usnea/datalog/IntList" "size" "I" (.int (2 : Int32))) ∧ (Arv Z h_ b k .int (4 : Int32) [(.int x0), (.int v), (.int (0 : Int32)), (.int (0 : Int32))] (.int 0)) ∧ (Exa Z h_ b "[I")
set_option maxRecDepth 65536 in
set_option maxHeartbeats 40000000 in
theorem rm_add_1 (l : Launch) (Z : State) (a0 : Array Value) (hw : ∀ d ∈ tables_1, d.before a0 Z = true) (ws : List Jvm.Cond) (a : Addr) (v : Int32) (b : Addr) (k : ClassId) (x0 : Int32) (h0 : Heap) (n0 : Nat) (Z0 : n0 ≤ h0.size) (pr0 : Exa Z h0 a "com/example/usnea/usnea/datalog/IntList") (pr1 : Fld Z h0 a "com/example/usnea/usnea/datalog/IntList" "values" "[I" (.ref b)) (pr2 : Fld Z h0 a "com/example/usnea/usnea/datalog/IntList" "size" "I" (.int (1 : Int32))) (pr3 : Arv Z h0 b k .int (4 : Int32) [(.int x0), (.int (0 : Int32)), (.int (0 : Int32)), (.int (0 : Int32))] (.int 0)) (pr4 : Exa Z h0 b "[I") (pr5 : n0 ≤ a) (pr6 : n0 ≤ b) (pr7 : a ≠ b) :
    MetFree l (⟨"com/example/usnea/usnea/datalog/IntList", "add", "(I)V"⟩ : MethodName) (head1 (Jvm.Cond.code (⟨"com/example/usnea/usnea/datalog/IntList", "add", "(I)V"⟩ : MethodName) prog_11_method_5_code 2 none :: ws) ({ frames := 0, cells := 0, slots := 0, locals := 0 } : Room)) (fun as_ U => as_ = #[(.ref a), (.int v)] ∧ Z.Warmed39 U.vm ∧ U.heap = h0) (fun _ _ _ _ _ => True) (fun _ U o U' => ∃ rv_ L_, o = .returned rv_ ∧ Q_add_1 Z a v b k x0 h0 n0 rv_ U'.heap L_ ∧ FrameEnd U o U' L_ ({ frames := 0, cells := 0, slots := 0, locals := 0 } : Room).cells ({ frames := 0, cells := 0, slots := 0, locals := 0 } : Room).slots) := by
  refine MetFree.of_bodySF (plainFor_of_name own_pn_com_example_usnea_usnea_datalog_IntList) hisR ?_
  intro p e s m args below meth c s₁ Bd hml0 hP hK
  obtain ⟨rfl, hZ, hh⟩ := hP
  have hx := Bd.exec
  have hby := Bd.bytes
  have hml : c.maxLocals = 2 := hml0
  have hown : s.vm.findClass "com/example/usnea/usnea/datalog/IntList" = some m.cls := findClass_of_methodNamed Bd.named
  have hnm := (name_of_methodNamed Bd.named Bd.method).1
  have X0 : Stand p l e ({ frames := 0, cells := 0, slots := 0, locals := 0 } : Room) s m #[(.ref a), (.int v)] below meth c s₁ [] 0 0 := Stand.of_body Bd
  have e0 : s₁.heap = h0 := by rw [← hh, Bd.state]; rfl
  have N0 := Fr.nil n0
  refine own_Goes.of ?_
  refine own_Goes.nm (fun P hPP => ?_)
  refine own_Goes.st ?_ (fun _ k => castTop (own_ef_add_1 m a v) k)
  have K0 : Keep h0 h0 [a, b] := Keep.refl _ _
  show own_Goes p.tables e below P (s₁.setTop (mkF m 0 #[.val (.ref a), .val (.int v)] []))
  refine own_Goes.st ?_ (fun _ k => XS.aloadN X0.here hx rfl (hb hby own_d_prog_11_method_5_0) rfl rfl k)
  show own_Goes p.tables e below P (s₁.setTop (mkF m 1 #[.val (.ref a), .val (.int v)] [(.ref a)]))
  obtain ⟨T1, X1, e1, st1⟩ := getF X0 hx hZ hown (host := "") (Or.inl (hw _ (List.mem_of_getElem? (i := 19) rfl))) Via.refl e0 pr2 (g := (mkF m 1 #[.val (.ref a), .val (.int v)] [(.ref a)])) rfl rfl (hb hby own_d_prog_11_method_5_1)
  refine own_Goes.st ?_ st1
  show own_Goes p.tables e below P (T1.setTop (mkF m 4 #[.val (.ref a), .val (.int v)] [(.int (1 : Int32))]))
  refine own_Goes.st ?_ (fun _ k => XS.aloadN X1.here hx rfl (hb hby own_d_prog_11_method_5_4) rfl rfl k)
  show own_Goes p.tables e below P (T1.setTop (mkF m 5 #[.val (.ref a), .val (.int v)] [(.ref a), (.int (1 : Int32))]))
  obtain ⟨T2, X2, e2, st2⟩ := getF X1 hx hZ hown (host := "") (Or.inl (hw _ (List.mem_of_getElem? (i := 12) rfl))) Via.refl e1 pr1 (g := (mkF m 5 #[.val (.ref a), .val (.int v)] [(.ref a), (.int (1 : Int32))])) rfl rfl (hb hby own_d_prog_11_method_5_5)
  refine own_Goes.st ?_ st2
  show own_Goes p.tables e below P (T2.setTop (mkF m 8 #[.val (.ref a), .val (.int v)] [(.ref b), (.int (1 : Int32))]))
  have Vc3 := pr3
  obtain ⟨cl3, Ar3, qc3, S3, Nn3, Hs3, Gs3⟩ := Vc3
  refine own_Goes.st ?_ (X2.arraylength hx (by rw [e2]; exact Ar3.1) (State.isArrayOf_alike hZ.alike Ar3.2.1) (g := (mkF m 8 #[.val (.ref a), .val (.int v)] [(.ref b), (.int (1 : Int32))])) rfl rfl (hb hby own_d_prog_11_method_5_8))
  rw [len_of S3 Nn3]
  show own_Goes p.tables e below P (T2.setTop (mkF m 9 #[.val (.ref a), .val (.int v)] [(.int (4 : Int32)), (.int (1 : Int32))]))
  refine own_Goes.st ?_ (fun _ k => XS.icmpYes X2.here hx rfl (pc0 := 9) (pc' := 29) rfl (hb hby own_d_prog_11_method_5_9) rfl (feq (by decide : ¬ ((1 : Int32) = (4 : Int32)))).2 (by decide) (by decide) k)
  show own_Goes p.tables e below P (T2.setTop (mkF m 29 #[.val (.ref a), .val (.int v)] []))
  refine own_Goes.st ?_ (fun _ k => XS.aloadN X2.here hx rfl (hb hby own_d_prog_11_method_5_29) rfl rfl k)
  show own_Goes p.tables e below P (T2.setTop (mkF m 30 #[.val (.ref a), .val (.int v)] [(.ref a)]))
  obtain ⟨T4, X4, e4, st4⟩ := getF X2 hx hZ hown (host := "") (Or.inl (hw _ (List.mem_of_getElem? (i := 12) rfl))) Via.refl e2 pr1 (g := (mkF m 30 #[.val (.ref a), .val (.int v)] [(.ref a)])) rfl rfl (hb hby own_d_prog_11_method_5_30)
  refine own_Goes.st ?_ st4
  show own_Goes p.tables e below P (T4.setTop (mkF m 33 #[.val (.ref a), .val (.int v)] [(.ref b)]))
  refine own_Goes.st ?_ (fun _ k => XS.aloadN X4.here hx rfl (hb hby own_d_prog_11_method_5_33) rfl rfl k)
  show own_Goes p.tables e below P (T4.setTop (mkF m 34 #[.val (.ref a), .val (.int v)] [(.ref a), (.ref b)]))
  refine own_Goes.st ?_ (fun _ k => XS.dup X4.here hx rfl (hb hby own_d_prog_11_method_5_34) rfl rfl k)
  show own_Goes p.tables e below P (T4.setTop (mkF m 35 #[.val (.ref a), .val (.int v)] [(.ref a), (.ref a), (.ref b)]))
  obtain ⟨T5, X5, e5, st5⟩ := getF X4 hx hZ hown (host := "") (Or.inl (hw _ (List.mem_of_getElem? (i := 19) rfl))) Via.refl e4 pr2 (g := (mkF m 35 #[.val (.ref a), .val (.int v)] [(.ref a), (.ref a), (.ref b)])) rfl rfl (hb hby own_d_prog_11_method_5_35)
  refine own_Goes.st ?_ st5
  show own_Goes p.tables e below P (T5.setTop (mkF m 38 #[.val (.ref a), .val (.int v)] [(.int (1 : Int32)), (.ref a), (.ref b)]))
  refine own_Goes.st ?_ (fun _ k => XS.dupX1 X5.here hx rfl (hb hby own_d_prog_11_method_5_38) rfl rfl rfl k)
  show own_Goes p.tables e below P (T5.setTop (mkF m 39 #[.val (.ref a), .val (.int v)] [(.int (1 : Int32)), (.ref a), (.int (1 : Int32)), (.ref b)]))
  refine own_Goes.st ?_ (fun _ k => XS.iconst X5.here hx rfl (hb hby own_d_prog_11_method_5_39) k)
  show own_Goes p.tables e below P (T5.setTop (mkF m 40 #[.val (.ref a), .val (.int v)] [(.int (1 : Int32)), (.int (1 : Int32)), (.ref a), (.int (1 : Int32)), (.ref b)]))
  refine own_Goes.st ?_ (fun _ k => XS.iadd X5.here hx rfl (hb hby own_d_prog_11_method_5_40) rfl k)
  show own_Goes p.tables e below P (T5.setTop (mkF m 41 #[.val (.ref a), .val (.int v)] [(.int (2 : Int32)), (.ref a), (.int (1 : Int32)), (.ref b)]))
  obtain ⟨T6, h6, X6, e6, W6, st6⟩ := putF X5 hx hZ hown (host := "") (Or.inl (hw _ (List.mem_of_getElem? (i := 19) rfl))) Via.refl e5 pr2 pr0 (Or.inl (hw _ (List.mem_of_getElem? (i := 20) rfl))) (hw _ (List.mem_of_getElem? (i := 3) rfl)) (ty := .int) (by decide) rfl rfl (g := (mkF m 41 #[.val (.ref a), .val (.int v)] [(.int (2 : Int32)), (.ref a), (.int (1 : Int32)), (.ref b)])) rfl rfl (hb hby own_d_prog_11_method_5_41)
  refine own_Goes.st ?_ st6
  have F7 : Fld Z h6 a "com/example/usnea/usnea/datalog/IntList" "size" "I" (.int (2 : Int32)) := pr2.same W6
  have Z8 : n0 ≤ h6.size := by rw [W6.size]; exact Z0
  have K9 := K0.wr W6 (Or.inl (List.mem_of_getElem? (i := 0) rfl))
  have N10 := Fr.snoc X6 N0 pr5
  show own_Goes p.tables e below P (T6.setTop (mkF m 44 #[.val (.ref a), .val (.int v)] [(.int (1 : Int32)), (.ref b)]))
  refine own_Goes.st ?_ (fun _ k => XS.iloadN X6.here hx rfl (hb hby own_d_prog_11_method_5_44) rfl k)
  show own_Goes p.tables e below P (T6.setTop (mkF m 45 #[.val (.ref a), .val (.int v)] [(.int v), (.int (1 : Int32)), (.ref b)]))
  have F11 : Arv Z h6 b k .int (4 : Int32) [(.int x0), (.int (0 : Int32)), (.int (0 : Int32)), (.int (0 : Int32))] (.int 0) := (pr3.other W6 (Ne.symm pr7))
  have Vc12 := F11
  obtain ⟨cl12, Ar12, qc12, S12, Nn12, Hs12, Gs12⟩ := Vc12
  have hin13 : ¬ ((1 : Int32) < 0 ∨ cl12.slots.size ≤ ((1 : Int32)).toNatClampNeg) := inb_of S12 ⟨by decide, by decide⟩
  obtain ⟨T13, h13, X13, e13, W13, st13⟩ := stI X6 hx hZ e6 Ar12 (j := (1 : Int32)) hin13 (g := (mkF m 45 #[.val (.ref a), .val (.int v)] [(.int v), (.int (1 : Int32)), (.ref b)])) rfl rfl (hb hby own_d_prog_11_method_5_45)
  refine own_Goes.st ?_ st13
  have V14 : Arv Z h13 b k .int (4 : Int32) [(.int x0), (.int v), (.int (0 : Int32)), (.int (0 : Int32))] (.int 0) := Arv.set Ar12 qc12 S12 Nn12 Hs12 Gs12 rfl W13 1 rfl (Nat.le_of_ble_eq_true rfl)
  have Z15 : n0 ≤ h13.size := by rw [W13.size]; exact Z8
  have K16 := K9.wr W13 (Or.inl (List.mem_of_getElem? (i := 1) rfl))
  have N17 := Fr.snoc X13 N10 pr6
  show own_Goes p.tables e below P (T13.setTop (mkF m 46 #[.val (.ref a), .val (.int v)] []))
  have F18 : Fld Z h13 a "com/example/usnea/usnea/datalog/IntList" "values" "[I" (.ref b) := ((pr1.other W6 (Or.inr (slot_ne (Or.inl (hw _ (List.mem_of_getElem? (i := 13) rfl))) (Or.inl (hw _ (List.mem_of_getElem? (i := 20) rfl))) (by decide) (t := (.array .int)) (t' := .int) (by decide) (by decide)))).other W13 (Or.inl pr7))
  obtain ⟨fs, hr, hrun, hended, hW, hsame⟩ := X13.leave (v := none) (fun _ => rfl)
  have F19 : Exa Z h13 a "com/example/usnea/usnea/datalog/IntList" := ((pr0.wr W6).wr W13)
  have F20 : Fld Z h13 a "com/example/usnea/usnea/datalog/IntList" "size" "I" (.int (2 : Int32)) := (F7.other W13 (Or.inl pr7))
  have F21 : Exa Z h13 b "[I" := ((pr4.wr W6).wr W13)
  exact own_Goes.fin _ _ (X13.returnOut hx Bd.returns (hb hby own_d_prog_11_method_5_46) hr) (hPP _ _ ⟨hrun, hended, _, _, rfl, (by show Q_add_1 Z a v b k x0 h0 n0 _ T13.heap _; rw [e13]; exact ⟨rfl, N17, K16, F19, F18, F20, V14, F21⟩), ⟨_, rfl⟩, hW, hsame.mono (by decide) (by decide)⟩)
theorem own_ef_add_2 (m : MethodId) (x0 : Addr) (x1 : Int32) : entryFrame m #[(.ref x0), (.int x1)] 2 = mkF m 0 #[.val (.ref x0), .val (.int x1)] [] := by first | (simp [entryFrame, mkF, argsToLocals, Value.category]; done) | rfl
def Q_add_2 (Z : State) (a : Addr) (v : Int32) (b : Addr) (k : ClassId) (x0 : Int32) (x1 : Int32) (h0 : Heap) (n0 : Nat) (rv_ : Option Value) (h_ : Heap) (L_ : List Loc) : Prop := rv_ = none ∧ Fr n0 L_ ∧ Keep h0 h_ [a, b] ∧ (Exa Z h_ a "com/example/usnea/usnea/datalog/IntList") ∧ (Fld Z h_ a "com/example/usnea/usnea/datalog/IntList" "values" "[I" (.ref b)) ∧ (Fld Z h_ a "com/example/usnea/usnea/datalog/IntList" "size" "I" (.int (3 : Int32))) ∧ (Arv Z h_ b k .int (4 : Int32) [(.int x0), (.int x1), (.int v), (.int (0 : Int32))] (.int 0)) ∧ (Exa Z h_ b "[I")
set_option maxRecDepth 65536 in
set_option maxHeartbeats 40000000 in
theorem rm_add_2 (l : Launch) (Z : State) (a0 : Array Value) (hw : ∀ d ∈ tables_1, d.before a0 Z = true) (ws : List Jvm.Cond) (a : Addr) (v : Int32) (b : Addr) (k : ClassId) (x0 : Int32) (x1 : Int32) (h0 : Heap) (n0 : Nat) (Z0 : n0 ≤ h0.size) (pr0 : Exa Z h0 a "com/example/usnea/usnea/datalog/IntList") (pr1 : Fld Z h0 a "com/example/usnea/usnea/datalog/IntList" "values" "[I" (.ref b)) (pr2 : Fld Z h0 a "com/example/usnea/usnea/datalog/IntList" "size" "I" (.int (2 : Int32))) (pr3 : Arv Z h0 b k .int (4 : Int32) [(.int x0), (.int x1), (.int (0 : Int32)), (.int (0 : Int32))] (.int 0)) (pr4 : Exa Z h0 b "[I") (pr5 : n0 ≤ a) (pr6 : n0 ≤ b) (pr7 : a ≠ b) :
    MetFree l (⟨"com/example/usnea/usnea/datalog/IntList", "add", "(I)V"⟩ : MethodName) (head1 (Jvm.Cond.code (⟨"com/example/usnea/usnea/datalog/IntList", "add", "(I)V"⟩ : MethodName) prog_11_method_5_code 2 none :: ws) ({ frames := 0, cells := 0, slots := 0, locals := 0 } : Room)) (fun as_ U => as_ = #[(.ref a), (.int v)] ∧ Z.Warmed39 U.vm ∧ U.heap = h0) (fun _ _ _ _ _ => True) (fun _ U o U' => ∃ rv_ L_, o = .returned rv_ ∧ Q_add_2 Z a v b k x0 x1 h0 n0 rv_ U'.heap L_ ∧ FrameEnd U o U' L_ ({ frames := 0, cells := 0, slots := 0, locals := 0 } : Room).cells ({ frames := 0, cells := 0, slots := 0, locals := 0 } : Room).slots) := by
  refine MetFree.of_bodySF (plainFor_of_name own_pn_com_example_usnea_usnea_datalog_IntList) hisR ?_
  intro p e s m args below meth c s₁ Bd hml0 hP hK
  obtain ⟨rfl, hZ, hh⟩ := hP
  have hx := Bd.exec
  have hby := Bd.bytes
  have hml : c.maxLocals = 2 := hml0
  have hown : s.vm.findClass "com/example/usnea/usnea/datalog/IntList" = some m.cls := findClass_of_methodNamed Bd.named
  have hnm := (name_of_methodNamed Bd.named Bd.method).1
  have X0 : Stand p l e ({ frames := 0, cells := 0, slots := 0, locals := 0 } : Room) s m #[(.ref a), (.int v)] below meth c s₁ [] 0 0 := Stand.of_body Bd
  have e0 : s₁.heap = h0 := by rw [← hh, Bd.state]; rfl
  have N0 := Fr.nil n0
  refine own_Goes.of ?_
  refine own_Goes.nm (fun P hPP => ?_)
  refine own_Goes.st ?_ (fun _ k => castTop (own_ef_add_2 m a v) k)
  have K0 : Keep h0 h0 [a, b] := Keep.refl _ _
  show own_Goes p.tables e below P (s₁.setTop (mkF m 0 #[.val (.ref a), .val (.int v)] []))
  refine own_Goes.st ?_ (fun _ k => XS.aloadN X0.here hx rfl (hb hby own_d_prog_11_method_5_0) rfl rfl k)
  show own_Goes p.tables e below P (s₁.setTop (mkF m 1 #[.val (.ref a), .val (.int v)] [(.ref a)]))
  obtain ⟨T1, X1, e1, st1⟩ := getF X0 hx hZ hown (host := "") (Or.inl (hw _ (List.mem_of_getElem? (i := 19) rfl))) Via.refl e0 pr2 (g := (mkF m 1 #[.val (.ref a), .val (.int v)] [(.ref a)])) rfl rfl (hb hby own_d_prog_11_method_5_1)
  refine own_Goes.st ?_ st1
  show own_Goes p.tables e below P (T1.setTop (mkF m 4 #[.val (.ref a), .val (.int v)] [(.int (2 : Int32))]))
  refine own_Goes.st ?_ (fun _ k => XS.aloadN X1.here hx rfl (hb hby own_d_prog_11_method_5_4) rfl rfl k)
  show own_Goes p.tables e below P (T1.setTop (mkF m 5 #[.val (.ref a), .val (.int v)] [(.ref a), (.int (2 : Int32))]))
  obtain ⟨T2, X2, e2, st2⟩ := getF X1 hx hZ hown (host := "") (Or.inl (hw _ (List.mem_of_getElem? (i := 12) rfl))) Via.refl e1 pr1 (g := (mkF m 5 #[.val (.ref a), .val (.int v)] [(.ref a), (.int (2 : Int32))])) rfl rfl (hb hby own_d_prog_11_method_5_5)
  refine own_Goes.st ?_ st2
  show own_Goes p.tables e below P (T2.setTop (mkF m 8 #[.val (.ref a), .val (.int v)] [(.ref b), (.int (2 : Int32))]))
  have Vc3 := pr3
  obtain ⟨cl3, Ar3, qc3, S3, Nn3, Hs3, Gs3⟩ := Vc3
  refine own_Goes.st ?_ (X2.arraylength hx (by rw [e2]; exact Ar3.1) (State.isArrayOf_alike hZ.alike Ar3.2.1) (g := (mkF m 8 #[.val (.ref a), .val (.int v)] [(.ref b), (.int (2 : Int32))])) rfl rfl (hb hby own_d_prog_11_method_5_8))
  rw [len_of S3 Nn3]
  show own_Goes p.tables e below P (T2.setTop (mkF m 9 #[.val (.ref a), .val (.int v)] [(.int (4 : Int32)), (.int (2 : Int32))]))
  refine own_Goes.st ?_ (fun _ k => XS.icmpYes X2.here hx rfl (pc0 := 9) (pc' := 29) rfl (hb hby own_d_prog_11_method_5_9) rfl (feq (by decide : ¬ ((2 : Int32) = (4 : Int32)))).2 (by decide) (by decide) k)
  show own_Goes p.tables e below P (T2.setTop (mkF m 29 #[.val (.ref a), .val (.int v)] []))
  refine own_Goes.st ?_ (fun _ k => XS.aloadN X2.here hx rfl (hb hby own_d_prog_11_method_5_29) rfl rfl k)
  show own_Goes p.tables e below P (T2.setTop (mkF m 30 #[.val (.ref a), .val (.int v)] [(.ref a)]))
  obtain ⟨T4, X4, e4, st4⟩ := getF X2 hx hZ hown (host := "") (Or.inl (hw _ (List.mem_of_getElem? (i := 12) rfl))) Via.refl e2 pr1 (g := (mkF m 30 #[.val (.ref a), .val (.int v)] [(.ref a)])) rfl rfl (hb hby own_d_prog_11_method_5_30)
  refine own_Goes.st ?_ st4
  show own_Goes p.tables e below P (T4.setTop (mkF m 33 #[.val (.ref a), .val (.int v)] [(.ref b)]))
  refine own_Goes.st ?_ (fun _ k => XS.aloadN X4.here hx rfl (hb hby own_d_prog_11_method_5_33) rfl rfl k)
  show own_Goes p.tables e below P (T4.setTop (mkF m 34 #[.val (.ref a), .val (.int v)] [(.ref a), (.ref b)]))
  refine own_Goes.st ?_ (fun _ k => XS.dup X4.here hx rfl (hb hby own_d_prog_11_method_5_34) rfl rfl k)
  show own_Goes p.tables e below P (T4.setTop (mkF m 35 #[.val (.ref a), .val (.int v)] [(.ref a), (.ref a), (.ref b)]))
  obtain ⟨T5, X5, e5, st5⟩ := getF X4 hx hZ hown (host := "") (Or.inl (hw _ (List.mem_of_getElem? (i := 19) rfl))) Via.refl e4 pr2 (g := (mkF m 35 #[.val (.ref a), .val (.int v)] [(.ref a), (.ref a), (.ref b)])) rfl rfl (hb hby own_d_prog_11_method_5_35)
  refine own_Goes.st ?_ st5
  show own_Goes p.tables e below P (T5.setTop (mkF m 38 #[.val (.ref a), .val (.int v)] [(.int (2 : Int32)), (.ref a), (.ref b)]))
  refine own_Goes.st ?_ (fun _ k => XS.dupX1 X5.here hx rfl (hb hby own_d_prog_11_method_5_38) rfl rfl rfl k)
  show own_Goes p.tables e below P (T5.setTop (mkF m 39 #[.val (.ref a), .val (.int v)] [(.int (2 : Int32)), (.ref a), (.int (2 : Int32)), (.ref b)]))
  refine own_Goes.st ?_ (fun _ k => XS.iconst X5.here hx rfl (hb hby own_d_prog_11_method_5_39) k)
  show own_Goes p.tables e below P (T5.setTop (mkF m 40 #[.val (.ref a), .val (.int v)] [(.int (1 : Int32)), (.int (2 : Int32)), (.ref a), (.int (2 : Int32)), (.ref b)]))
  refine own_Goes.st ?_ (fun _ k => XS.iadd X5.here hx rfl (hb hby own_d_prog_11_method_5_40) rfl k)
  show own_Goes p.tables e below P (T5.setTop (mkF m 41 #[.val (.ref a), .val (.int v)] [(.int (3 : Int32)), (.ref a), (.int (2 : Int32)), (.ref b)]))
  obtain ⟨T6, h6, X6, e6, W6, st6⟩ := putF X5 hx hZ hown (host := "") (Or.inl (hw _ (List.mem_of_getElem? (i := 19) rfl))) Via.refl e5 pr2 pr0 (Or.inl (hw _ (List.mem_of_getElem? (i := 20) rfl))) (hw _ (List.mem_of_getElem? (i := 3) rfl)) (ty := .int) (by decide) rfl rfl (g := (mkF m 41 #[.val (.ref a), .val (.int v)] [(.int (3 : Int32)), (.ref a), (.int (2 : Int32)), (.ref b)])) rfl rfl (hb hby own_d_prog_11_method_5_41)
  refine own_Goes.st ?_ st6
  have F7 : Fld Z h6 a "com/example/usnea/usnea/datalog/IntList" "size" "I" (.int (3 : Int32)) := pr2.same W6
  have Z8 : n0 ≤ h6.size := by rw [W6.size]; exact Z0
  have K9 := K0.wr W6 (Or.inl (List.mem_of_getElem? (i := 0) rfl))
  have N10 := Fr.snoc X6 N0 pr5
  show own_Goes p.tables e below P (T6.setTop (mkF m 44 #[.val (.ref a), .val (.int v)] [(.int (2 : Int32)), (.ref b)]))
  refine own_Goes.st ?_ (fun _ k => XS.iloadN X6.here hx rfl (hb hby own_d_prog_11_method_5_44) rfl k)
  show own_Goes p.tables e below P (T6.setTop (mkF m 45 #[.val (.ref a), .val (.int v)] [(.int v), (.int (2 : Int32)), (.ref b)]))
  have F11 : Arv Z h6 b k .int (4 : Int32) [(.int x0), (.int x1), (.int (0 : Int32)), (.int (0 : Int32))] (.int 0) := (pr3.other W6 (Ne.symm pr7))
  have Vc12 := F11
  obtain ⟨cl12, Ar12, qc12, S12, Nn12, Hs12, Gs12⟩ := Vc12
  have hin13 : ¬ ((2 : Int32) < 0 ∨ cl12.slots.size ≤ ((2 : Int32)).toNatClampNeg) := inb_of S12 ⟨by decide, by decide⟩
  obtain ⟨T13, h13, X13, e13, W13, st13⟩ := stI X6 hx hZ e6 Ar12 (j := (2 : Int32)) hin13 (g := (mkF m 45 #[.val (.ref a), .val (.int v)] [(.int v), (.int (2 : Int32)), (.ref b)])) rfl rfl (hb hby own_d_prog_11_method_5_45)
  refine own_Goes.st ?_ st13
  have V14 : Arv Z h13 b k .int (4 : Int32) [(.int x0), (.int x1), (.int v), (.int (0 : Int32))] (.int 0) := Arv.set Ar12 qc12 S12 Nn12 Hs12 Gs12 rfl W13 2 rfl (Nat.le_of_ble_eq_true rfl)
  have Z15 : n0 ≤ h13.size := by rw [W13.size]; exact Z8
  have K16 := K9.wr W13 (Or.inl (List.mem_of_getElem? (i := 1) rfl))
  have N17 := Fr.snoc X13 N10 pr6
  show own_Goes p.tables e below P (T13.setTop (mkF m 46 #[.val (.ref a), .val (.int v)] []))
  have F18 : Fld Z h13 a "com/example/usnea/usnea/datalog/IntList" "values" "[I" (.ref b) := ((pr1.other W6 (Or.inr (slot_ne (Or.inl (hw _ (List.mem_of_getElem? (i := 13) rfl))) (Or.inl (hw _ (List.mem_of_getElem? (i := 20) rfl))) (by decide) (t := (.array .int)) (t' := .int) (by decide) (by decide)))).other W13 (Or.inl pr7))
  obtain ⟨fs, hr, hrun, hended, hW, hsame⟩ := X13.leave (v := none) (fun _ => rfl)
  have F19 : Exa Z h13 a "com/example/usnea/usnea/datalog/IntList" := ((pr0.wr W6).wr W13)
  have F20 : Fld Z h13 a "com/example/usnea/usnea/datalog/IntList" "size" "I" (.int (3 : Int32)) := (F7.other W13 (Or.inl pr7))
  have F21 : Exa Z h13 b "[I" := ((pr4.wr W6).wr W13)
  exact own_Goes.fin _ _ (X13.returnOut hx Bd.returns (hb hby own_d_prog_11_method_5_46) hr) (hPP _ _ ⟨hrun, hended, _, _, rfl, (by show Q_add_2 Z a v b k x0 x1 h0 n0 _ T13.heap _; rw [e13]; exact ⟨rfl, N17, K16, F19, F18, F20, V14, F21⟩), ⟨_, rfl⟩, hW, hsame.mono (by decide) (by decide)⟩)
theorem own_ef_add_3 (m : MethodId) (x0 : Addr) (x1 : Int32) : entryFrame m #[(.ref x0), (.int x1)] 2 = mkF m 0 #[.val (.ref x0), .val (.int x1)] [] := by first | (simp [entryFrame, mkF, argsToLocals, Value.category]; done) | rfl
def Q_add_3 (Z : State) (a : Addr) (v : Int32) (b : Addr) (k : ClassId) (x0 : Int32) (x1 : Int32) (x2 : Int32) (h0 : Heap) (n0 : Nat) (rv_ : Option Value) (h_ : Heap) (L_ : List Loc) : Prop := rv_ = none ∧ Fr n0 L_ ∧ Keep h0 h_ [a, b] ∧ (Exa Z h_ a "com/example/usnea/usnea/datalog/IntList") ∧ (Fld Z h_ a "com/example/usnea/usnea/datalog/IntList" "values" "[I" (.ref b)) ∧ (Fld Z h_ a "com/example/usnea/usnea/datalog/IntList" "size" "I" (.int (4 : Int32))) ∧ (Arv Z h_ b k .int (4 : Int32) [(.int x0), (.int x1), (.int x2), (.int v)] (.int 0)) ∧ (Exa Z h_ b "[I")
set_option maxRecDepth 65536 in
set_option maxHeartbeats 40000000 in
theorem rm_add_3 (l : Launch) (Z : State) (a0 : Array Value) (hw : ∀ d ∈ tables_1, d.before a0 Z = true) (ws : List Jvm.Cond) (a : Addr) (v : Int32) (b : Addr) (k : ClassId) (x0 : Int32) (x1 : Int32) (x2 : Int32) (h0 : Heap) (n0 : Nat) (Z0 : n0 ≤ h0.size) (pr0 : Exa Z h0 a "com/example/usnea/usnea/datalog/IntList") (pr1 : Fld Z h0 a "com/example/usnea/usnea/datalog/IntList" "values" "[I" (.ref b)) (pr2 : Fld Z h0 a "com/example/usnea/usnea/datalog/IntList" "size" "I" (.int (3 : Int32))) (pr3 : Arv Z h0 b k .int (4 : Int32) [(.int x0), (.int x1), (.int x2), (.int (0 : Int32))] (.int 0)) (pr4 : Exa Z h0 b "[I") (pr5 : n0 ≤ a) (pr6 : n0 ≤ b) (pr7 : a ≠ b) :
    MetFree l (⟨"com/example/usnea/usnea/datalog/IntList", "add", "(I)V"⟩ : MethodName) (head1 (Jvm.Cond.code (⟨"com/example/usnea/usnea/datalog/IntList", "add", "(I)V"⟩ : MethodName) prog_11_method_5_code 2 none :: ws) ({ frames := 0, cells := 0, slots := 0, locals := 0 } : Room)) (fun as_ U => as_ = #[(.ref a), (.int v)] ∧ Z.Warmed39 U.vm ∧ U.heap = h0) (fun _ _ _ _ _ => True) (fun _ U o U' => ∃ rv_ L_, o = .returned rv_ ∧ Q_add_3 Z a v b k x0 x1 x2 h0 n0 rv_ U'.heap L_ ∧ FrameEnd U o U' L_ ({ frames := 0, cells := 0, slots := 0, locals := 0 } : Room).cells ({ frames := 0, cells := 0, slots := 0, locals := 0 } : Room).slots) := by
  refine MetFree.of_bodySF (plainFor_of_name own_pn_com_example_usnea_usnea_datalog_IntList) hisR ?_
  intro p e s m args below meth c s₁ Bd hml0 hP hK
  obtain ⟨rfl, hZ, hh⟩ := hP
  have hx := Bd.exec
  have hby := Bd.bytes
  have hml : c.maxLocals = 2 := hml0
  have hown : s.vm.findClass "com/example/usnea/usnea/datalog/IntList" = some m.cls := findClass_of_methodNamed Bd.named
  have hnm := (name_of_methodNamed Bd.named Bd.method).1
  have X0 : Stand p l e ({ frames := 0, cells := 0, slots := 0, locals := 0 } : Room) s m #[(.ref a), (.int v)] below meth c s₁ [] 0 0 := Stand.of_body Bd
  have e0 : s₁.heap = h0 := by rw [← hh, Bd.state]; rfl
  have N0 := Fr.nil n0
  refine own_Goes.of ?_
  refine own_Goes.nm (fun P hPP => ?_)
  refine own_Goes.st ?_ (fun _ k => castTop (own_ef_add_3 m a v) k)
  have K0 : Keep h0 h0 [a, b] := Keep.refl _ _
  show own_Goes p.tables e below P (s₁.setTop (mkF m 0 #[.val (.ref a), .val (.int v)] []))
  refine own_Goes.st ?_ (fun _ k => XS.aloadN X0.here hx rfl (hb hby own_d_prog_11_method_5_0) rfl rfl k)
  show own_Goes p.tables e below P (s₁.setTop (mkF m 1 #[.val (.ref a), .val (.int v)] [(.ref a)]))
  obtain ⟨T1, X1, e1, st1⟩ := getF X0 hx hZ hown (host := "") (Or.inl (hw _ (List.mem_of_getElem? (i := 19) rfl))) Via.refl e0 pr2 (g := (mkF m 1 #[.val (.ref a), .val (.int v)] [(.ref a)])) rfl rfl (hb hby own_d_prog_11_method_5_1)
  refine own_Goes.st ?_ st1
  show own_Goes p.tables e below P (T1.setTop (mkF m 4 #[.val (.ref a), .val (.int v)] [(.int (3 : Int32))]))
  refine own_Goes.st ?_ (fun _ k => XS.aloadN X1.here hx rfl (hb hby own_d_prog_11_method_5_4) rfl rfl k)
  show own_Goes p.tables e below P (T1.setTop (mkF m 5 #[.val (.ref a), .val (.int v)] [(.ref a), (.int (3 : Int32))]))
  obtain ⟨T2, X2, e2, st2⟩ := getF X1 hx hZ hown (host := "") (Or.inl (hw _ (List.mem_of_getElem? (i := 12) rfl))) Via.refl e1 pr1 (g := (mkF m 5 #[.val (.ref a), .val (.int v)] [(.ref a), (.int (3 : Int32))])) rfl rfl (hb hby own_d_prog_11_method_5_5)
  refine own_Goes.st ?_ st2
  show own_Goes p.tables e below P (T2.setTop (mkF m 8 #[.val (.ref a), .val (.int v)] [(.ref b), (.int (3 : Int32))]))
  have Vc3 := pr3
  obtain ⟨cl3, Ar3, qc3, S3, Nn3, Hs3, Gs3⟩ := Vc3
  refine own_Goes.st ?_ (X2.arraylength hx (by rw [e2]; exact Ar3.1) (State.isArrayOf_alike hZ.alike Ar3.2.1) (g := (mkF m 8 #[.val (.ref a), .val (.int v)] [(.ref b), (.int (3 : Int32))])) rfl rfl (hb hby own_d_prog_11_method_5_8))
  rw [len_of S3 Nn3]
  show own_Goes p.tables e below P (T2.setTop (mkF m 9 #[.val (.ref a), .val (.int v)] [(.int (4 : Int32)), (.int (3 : Int32))]))
  refine own_Goes.st ?_ (fun _ k => XS.icmpYes X2.here hx rfl (pc0 := 9) (pc' := 29) rfl (hb hby own_d_prog_11_method_5_9) rfl (feq (by decide : ¬ ((3 : Int32) = (4 : Int32)))).2 (by decide) (by decide) k)
  show own_Goes p.tables e below P (T2.setTop (mkF m 29 #[.val (.ref a), .val (.int v)] []))
  refine own_Goes.st ?_ (fun _ k => XS.aloadN X2.here hx rfl (hb hby own_d_prog_11_method_5_29) rfl rfl k)
  show own_Goes p.tables e below P (T2.setTop (mkF m 30 #[.val (.ref a), .val (.int v)] [(.ref a)]))
  obtain ⟨T4, X4, e4, st4⟩ := getF X2 hx hZ hown (host := "") (Or.inl (hw _ (List.mem_of_getElem? (i := 12) rfl))) Via.refl e2 pr1 (g := (mkF m 30 #[.val (.ref a), .val (.int v)] [(.ref a)])) rfl rfl (hb hby own_d_prog_11_method_5_30)
  refine own_Goes.st ?_ st4
  show own_Goes p.tables e below P (T4.setTop (mkF m 33 #[.val (.ref a), .val (.int v)] [(.ref b)]))
  refine own_Goes.st ?_ (fun _ k => XS.aloadN X4.here hx rfl (hb hby own_d_prog_11_method_5_33) rfl rfl k)
  show own_Goes p.tables e below P (T4.setTop (mkF m 34 #[.val (.ref a), .val (.int v)] [(.ref a), (.ref b)]))
  refine own_Goes.st ?_ (fun _ k => XS.dup X4.here hx rfl (hb hby own_d_prog_11_method_5_34) rfl rfl k)
  show own_Goes p.tables e below P (T4.setTop (mkF m 35 #[.val (.ref a), .val (.int v)] [(.ref a), (.ref a), (.ref b)]))
  obtain ⟨T5, X5, e5, st5⟩ := getF X4 hx hZ hown (host := "") (Or.inl (hw _ (List.mem_of_getElem? (i := 19) rfl))) Via.refl e4 pr2 (g := (mkF m 35 #[.val (.ref a), .val (.int v)] [(.ref a), (.ref a), (.ref b)])) rfl rfl (hb hby own_d_prog_11_method_5_35)
  refine own_Goes.st ?_ st5
  show own_Goes p.tables e below P (T5.setTop (mkF m 38 #[.val (.ref a), .val (.int v)] [(.int (3 : Int32)), (.ref a), (.ref b)]))
  refine own_Goes.st ?_ (fun _ k => XS.dupX1 X5.here hx rfl (hb hby own_d_prog_11_method_5_38) rfl rfl rfl k)
  show own_Goes p.tables e below P (T5.setTop (mkF m 39 #[.val (.ref a), .val (.int v)] [(.int (3 : Int32)), (.ref a), (.int (3 : Int32)), (.ref b)]))
  refine own_Goes.st ?_ (fun _ k => XS.iconst X5.here hx rfl (hb hby own_d_prog_11_method_5_39) k)
  show own_Goes p.tables e below P (T5.setTop (mkF m 40 #[.val (.ref a), .val (.int v)] [(.int (1 : Int32)), (.int (3 : Int32)), (.ref a), (.int (3 : Int32)), (.ref b)]))
  refine own_Goes.st ?_ (fun _ k => XS.iadd X5.here hx rfl (hb hby own_d_prog_11_method_5_40) rfl k)
  show own_Goes p.tables e below P (T5.setTop (mkF m 41 #[.val (.ref a), .val (.int v)] [(.int (4 : Int32)), (.ref a), (.int (3 : Int32)), (.ref b)]))
  obtain ⟨T6, h6, X6, e6, W6, st6⟩ := putF X5 hx hZ hown (host := "") (Or.inl (hw _ (List.mem_of_getElem? (i := 19) rfl))) Via.refl e5 pr2 pr0 (Or.inl (hw _ (List.mem_of_getElem? (i := 20) rfl))) (hw _ (List.mem_of_getElem? (i := 3) rfl)) (ty := .int) (by decide) rfl rfl (g := (mkF m 41 #[.val (.ref a), .val (.int v)] [(.int (4 : Int32)), (.ref a), (.int (3 : Int32)), (.ref b)])) rfl rfl (hb hby own_d_prog_11_method_5_41)
  refine own_Goes.st ?_ st6
  have F7 : Fld Z h6 a "com/example/usnea/usnea/datalog/IntList" "size" "I" (.int (4 : Int32)) := pr2.same W6
  have Z8 : n0 ≤ h6.size := by rw [W6.size]; exact Z0
  have K9 := K0.wr W6 (Or.inl (List.mem_of_getElem? (i := 0) rfl))
  have N10 := Fr.snoc X6 N0 pr5
  show own_Goes p.tables e below P (T6.setTop (mkF m 44 #[.val (.ref a), .val (.int v)] [(.int (3 : Int32)), (.ref b)]))
  refine own_Goes.st ?_ (fun _ k => XS.iloadN X6.here hx rfl (hb hby own_d_prog_11_method_5_44) rfl k)
  show own_Goes p.tables e below P (T6.setTop (mkF m 45 #[.val (.ref a), .val (.int v)] [(.int v), (.int (3 : Int32)), (.ref b)]))
  have F11 : Arv Z h6 b k .int (4 : Int32) [(.int x0), (.int x1), (.int x2), (.int (0 : Int32))] (.int 0) := (pr3.other W6 (Ne.symm pr7))
  have Vc12 := F11
  obtain ⟨cl12, Ar12, qc12, S12, Nn12, Hs12, Gs12⟩ := Vc12
  have hin13 : ¬ ((3 : Int32) < 0 ∨ cl12.slots.size ≤ ((3 : Int32)).toNatClampNeg) := inb_of S12 ⟨by decide, by decide⟩
  obtain ⟨T13, h13, X13, e13, W13, st13⟩ := stI X6 hx hZ e6 Ar12 (j := (3 : Int32)) hin13 (g := (mkF m 45 #[.val (.ref a), .val (.int v)] [(.int v), (.int (3 : Int32)), (.ref b)])) rfl rfl (hb hby own_d_prog_11_method_5_45)
  refine own_Goes.st ?_ st13
  have V14 : Arv Z h13 b k .int (4 : Int32) [(.int x0), (.int x1), (.int x2), (.int v)] (.int 0) := Arv.set Ar12 qc12 S12 Nn12 Hs12 Gs12 rfl W13 3 rfl (Nat.le_of_ble_eq_true rfl)
  have Z15 : n0 ≤ h13.size := by rw [W13.size]; exact Z8
  have K16 := K9.wr W13 (Or.inl (List.mem_of_getElem? (i := 1) rfl))
  have N17 := Fr.snoc X13 N10 pr6
  show own_Goes p.tables e below P (T13.setTop (mkF m 46 #[.val (.ref a), .val (.int v)] []))
  have F18 : Fld Z h13 a "com/example/usnea/usnea/datalog/IntList" "values" "[I" (.ref b) := ((pr1.other W6 (Or.inr (slot_ne (Or.inl (hw _ (List.mem_of_getElem? (i := 13) rfl))) (Or.inl (hw _ (List.mem_of_getElem? (i := 20) rfl))) (by decide) (t := (.array .int)) (t' := .int) (by decide) (by decide)))).other W13 (Or.inl pr7))
  obtain ⟨fs, hr, hrun, hended, hW, hsame⟩ := X13.leave (v := none) (fun _ => rfl)
  have F19 : Exa Z h13 a "com/example/usnea/usnea/datalog/IntList" := ((pr0.wr W6).wr W13)
  have F20 : Fld Z h13 a "com/example/usnea/usnea/datalog/IntList" "size" "I" (.int (4 : Int32)) := (F7.other W13 (Or.inl pr7))
  have F21 : Exa Z h13 b "[I" := ((pr4.wr W6).wr W13)
  exact own_Goes.fin _ _ (X13.returnOut hx Bd.returns (hb hby own_d_prog_11_method_5_46) hr) (hPP _ _ ⟨hrun, hended, _, _, rfl, (by show Q_add_3 Z a v b k x0 x1 x2 h0 n0 _ T13.heap _; rw [e13]; exact ⟨rfl, N17, K16, F19, F18, F20, V14, F21⟩), ⟨_, rfl⟩, hW, hsame.mono (by decide) (by decide)⟩)
theorem own_ef_copy_4_4_8 (m : MethodId) (x0 : Addr) : entryFrame m #[(.ref x0), (.int (8 : Int32))] 3 = mkF m 0 #[.val (.ref x0), .val (.int (8 : Int32)), .unset] [] := by first | (simp [entryFrame, mkF, argsToLocals, Value.category]; done) | rfl
theorem own_pn_java_util_Arrays : plainName "java/util/Arrays" = true := by first | (simp [plainName, overriddenIn]; done) | decide +kernel
theorem own_d_jdk_65_method_123_0 : decode jdk_65_method_123_code 0 = .ok (.iload_n 1, 1) := by decide +kernel
theorem own_d_jdk_65_method_123_1 : decode jdk_65_method_123_code 1 = .ok (.aload_n 0, 1) := by decide +kernel
theorem own_d_jdk_65_method_123_2 : decode jdk_65_method_123_code 2 = .ok (.arraylength, 1) := by decide +kernel
theorem own_d_jdk_65_method_123_3 : decode jdk_65_method_123_code 3 = .ok (.if_icmp .ne 11, 3) := by decide +kernel
theorem own_d_jdk_65_method_123_14 : decode jdk_65_method_123_code 14 = .ok (.iload_n 1, 1) := by decide +kernel
theorem own_d_jdk_65_method_123_15 : decode jdk_65_method_123_code 15 = .ok (.newarray .int, 2) := by decide +kernel
theorem own_d_jdk_65_method_123_17 : decode jdk_65_method_123_code 17 = .ok (.astore_n 2, 1) := by decide +kernel
theorem own_d_jdk_65_method_123_18 : decode jdk_65_method_123_code 18 = .ok (.aload_n 0, 1) := by decide +kernel
theorem own_d_jdk_65_method_123_19 : decode jdk_65_method_123_code 19 = .ok (.iconst 0, 1) := by decide +kernel
theorem own_d_jdk_65_method_123_20 : decode jdk_65_method_123_code 20 = .ok (.aload_n 2, 1) := by decide +kernel
theorem own_d_jdk_65_method_123_21 : decode jdk_65_method_123_code 21 = .ok (.iconst 0, 1) := by decide +kernel
theorem own_d_jdk_65_method_123_22 : decode jdk_65_method_123_code 22 = .ok (.aload_n 0, 1) := by decide +kernel
theorem own_d_jdk_65_method_123_23 : decode jdk_65_method_123_code 23 = .ok (.arraylength, 1) := by decide +kernel
theorem own_d_jdk_65_method_123_24 : decode jdk_65_method_123_code 24 = .ok (.iload_n 1, 1) := by decide +kernel
theorem own_pd__28_II_29_I : parseMethodDescriptor "(II)I" = some ⟨[.int, .int], some .int⟩ := by decide +kernel
theorem own_d_jdk_65_method_123_25 : decode jdk_65_method_123_code 25 = .ok (.invokestatic 304, 3) := by decide +kernel
theorem own_d_jdk_65_method_123_28 : decode jdk_65_method_123_code 28 = .ok (.invokestatic 150, 3) := by decide +kernel
theorem own_d_jdk_65_method_123_31 : decode jdk_65_method_123_code 31 = .ok (.aload_n 2, 1) := by decide +kernel
theorem own_d_jdk_65_method_123_32 : decode jdk_65_method_123_code 32 = .ok (.areturn, 1) := by decide +kernel
def Q_copy_4_4_8 (Z : State) (b : Addr) (k : ClassId) (x0 : Int32) (x1 : Int32) (x2 : Int32) (x3 : Int32) (h0 : Heap) (n0 : Nat) (rv_ : Option Value) (h_ : Heap) (L_ : List Loc) : Prop := ∃ (r : Addr) (q : ClassId), rv_ = some (.ref r) ∧ Fr n0 L_ ∧ Keep h0 h_ [] ∧ (h0.size ≤ r) ∧ (Arv Z h_ r q .int (8 : Int32) [(.int x0), (.int x1), (.int x2), (.int x3), (.int (0 : Int32)), (.int (0 : Int32)), (.int (0 : Int32)), (.int (0 : Int32))] (.int 0)) ∧ (Exa Z h_ r "[I")
set_option maxRecDepth 65536 in
set_option maxHeartbeats 40000000 in
theorem rm_copy_4_4_8 (l : Launch) (Z : State) (a0 : Array Value) (hw : ∀ d ∈ tables_1, d.before a0 Z = true) (ws : List Jvm.Cond) (b : Addr) (k : ClassId) (x0 : Int32) (x1 : Int32) (x2 : Int32) (x3 : Int32) (h0 : Heap) (n0 : Nat) (Z0 : n0 ≤ h0.size) (pr0 : Arv Z h0 b k .int (4 : Int32) [(.int x0), (.int x1), (.int x2), (.int x3)] (.int 0)) (pr1 : Exa Z h0 b "[I") :
    MetFree l (⟨"java/util/Arrays", "copyOf", "([II)[I"⟩ : MethodName) (head1 (Jvm.Cond.code (⟨"java/util/Arrays", "copyOf", "([II)[I"⟩ : MethodName) jdk_65_method_123_code 3 (some (.array .int)) :: ws) ({ frames := 1, cells := 1, slots := 8, locals := 18 } : Room)) (fun as_ U => as_ = #[(.ref b), (.int (8 : Int32))] ∧ Z.Warmed39 U.vm ∧ U.heap = h0) (fun _ _ _ _ _ => True) (fun _ U o U' => ∃ rv_ L_, o = .returned rv_ ∧ Q_copy_4_4_8 Z b k x0 x1 x2 x3 h0 n0 rv_ U'.heap L_ ∧ FrameEnd U o U' L_ ({ frames := 1, cells := 1, slots := 8, locals := 18 } : Room).cells ({ frames := 1, cells := 1, slots := 8, locals := 18 } : Room).slots) := by
  refine MetFree.of_bodySF (plainFor_of_name own_pn_java_util_Arrays) hisR ?_
  intro p e s m args below meth c s₁ Bd hml0 hP hK
  obtain ⟨rfl, hZ, hh⟩ := hP
  have hx := Bd.exec
  have hby := Bd.bytes
  have hml : c.maxLocals = 3 := hml0
  have hown : s.vm.findClass "java/util/Arrays" = some m.cls := findClass_of_methodNamed Bd.named
  have hnm := (name_of_methodNamed Bd.named Bd.method).1
  have X0 : Stand p l e ({ frames := 1, cells := 1, slots := 8, locals := 18 } : Room) s m #[(.ref b), (.int (8 : Int32))] below meth c s₁ [] 0 0 := Stand.of_body Bd
  have e0 : s₁.heap = h0 := by rw [← hh, Bd.state]; rfl
  have N0 := Fr.nil n0
  refine own_Goes.of ?_
  refine own_Goes.nm (fun P hPP => ?_)
  refine own_Goes.st ?_ (fun _ k => castTop (own_ef_copy_4_4_8 m b) k)
  have K0 : Keep h0 h0 [] := Keep.refl _ _
  show own_Goes p.tables e below P (s₁.setTop (mkF m 0 #[.val (.ref b), .val (.int (8 : Int32)), .unset] []))
  refine own_Goes.st ?_ (fun _ k => XS.iloadN X0.here hx rfl (hb hby own_d_jdk_65_method_123_0) rfl k)
  show own_Goes p.tables e below P (s₁.setTop (mkF m 1 #[.val (.ref b), .val (.int (8 : Int32)), .unset] [(.int (8 : Int32))]))
  refine own_Goes.st ?_ (fun _ k => XS.aloadN X0.here hx rfl (hb hby own_d_jdk_65_method_123_1) rfl rfl k)
  show own_Goes p.tables e below P (s₁.setTop (mkF m 2 #[.val (.ref b), .val (.int (8 : Int32)), .unset] [(.ref b), (.int (8 : Int32))]))
  have Vc1 := pr0
  obtain ⟨cl1, Ar1, qc1, S1, Nn1, Hs1, Gs1⟩ := Vc1
  refine own_Goes.st ?_ (X0.arraylength hx (by rw [e0]; exact Ar1.1) (State.isArrayOf_alike hZ.alike Ar1.2.1) (g := (mkF m 2 #[.val (.ref b), .val (.int (8 : Int32)), .unset] [(.ref b), (.int (8 : Int32))])) rfl rfl (hb hby own_d_jdk_65_method_123_2))
  rw [len_of S1 Nn1]
  show own_Goes p.tables e below P (s₁.setTop (mkF m 3 #[.val (.ref b), .val (.int (8 : Int32)), .unset] [(.int (4 : Int32)), (.int (8 : Int32))]))
  refine own_Goes.st ?_ (fun _ k => XS.icmpYes X0.here hx rfl (pc0 := 3) (pc' := 14) rfl (hb hby own_d_jdk_65_method_123_3) rfl (feq (by decide : ¬ ((8 : Int32) = (4 : Int32)))).2 (by decide) (by decide) k)
  show own_Goes p.tables e below P (s₁.setTop (mkF m 14 #[.val (.ref b), .val (.int (8 : Int32)), .unset] []))
  refine own_Goes.st ?_ (fun _ k => XS.iloadN X0.here hx rfl (hb hby own_d_jdk_65_method_123_14) rfl k)
  show own_Goes p.tables e below P (s₁.setTop (mkF m 15 #[.val (.ref b), .val (.int (8 : Int32)), .unset] [(.int (8 : Int32))]))
  obtain ⟨T2, h2, k2, X2, e2, E2, A2, J2, st2⟩ := newPE X0 hx hZ (hw _ (List.mem_of_getElem? (i := 11) rfl)) e0 (g := (mkF m 15 #[.val (.ref b), .val (.int (8 : Int32)), .unset] [(.int (8 : Int32))])) rfl (hb hby own_d_jdk_65_method_123_15) rfl (by decide) (cap := 8) (by decide) (by decide) (by decide) (by decide) (ad := "[I") rfl
  obtain ⟨b2, g2⟩ : ∃ z, z = h0.size := ⟨_, rfl⟩
  rw [← g2] at A2 J2 st2
  have ne3 : b ≠ b2 := Nat.ne_of_lt (Nat.lt_of_lt_of_eq pr0.lt g2.symm)
  have ge_b2 : n0 ≤ b2 := Nat.le_trans Z0 (Nat.le_of_eq g2.symm)
  have sz_b2 : h0.size ≤ b2 := Nat.le_trans K0.1 (Nat.le_of_eq g2.symm)
  refine own_Goes.st ?_ st2
  have Z4 : n0 ≤ h2.size := Nat.le_trans Z0 E2.1
  have K5 := K0.ext E2
  have V6 : Arv Z h2 b2 k2 .int (8 : Int32) [(.int (0 : Int32)), (.int (0 : Int32)), (.int (0 : Int32)), (.int (0 : Int32)), (.int (0 : Int32)), (.int (0 : Int32)), (.int (0 : Int32)), (.int (0 : Int32))] (.int 0) := (Arv.new A2 (by decide)).pad (pad_rep [] _ 8)
  show own_Goes p.tables e below P (T2.setTop (mkF m 17 #[.val (.ref b), .val (.int (8 : Int32)), .unset] [(.ref b2)]))
  refine own_Goes.st ?_ (fun _ k => XS.astoreN X2.here hx rfl (hb hby own_d_jdk_65_method_123_17) rfl rfl (l' := #[.val (.ref b), .val (.int (8 : Int32)), .val (.ref b2)]) rfl k)
  show own_Goes p.tables e below P (T2.setTop (mkF m 18 #[.val (.ref b), .val (.int (8 : Int32)), .val (.ref b2)] []))
  refine own_Goes.st ?_ (fun _ k => XS.aloadN X2.here hx rfl (hb hby own_d_jdk_65_method_123_18) rfl rfl k)
  show own_Goes p.tables e below P (T2.setTop (mkF m 19 #[.val (.ref b), .val (.int (8 : Int32)), .val (.ref b2)] [(.ref b)]))
  refine own_Goes.st ?_ (fun _ k => XS.iconst X2.here hx rfl (hb hby own_d_jdk_65_method_123_19) k)
  show own_Goes p.tables e below P (T2.setTop (mkF m 20 #[.val (.ref b), .val (.int (8 : Int32)), .val (.ref b2)] [(.int (0 : Int32)), (.ref b)]))
  refine own_Goes.st ?_ (fun _ k => XS.aloadN X2.here hx rfl (hb hby own_d_jdk_65_method_123_20) rfl rfl k)
  show own_Goes p.tables e below P (T2.setTop (mkF m 21 #[.val (.ref b), .val (.int (8 : Int32)), .val (.ref b2)] [(.ref b2), (.int (0 : Int32)), (.ref b)]))
  refine own_Goes.st ?_ (fun _ k => XS.iconst X2.here hx rfl (hb hby own_d_jdk_65_method_123_21) k)
  show own_Goes p.tables e below P (T2.setTop (mkF m 22 #[.val (.ref b), .val (.int (8 : Int32)), .val (.ref b2)] [(.int (0 : Int32)), (.ref b2), (.int (0 : Int32)), (.ref b)]))
  refine own_Goes.st ?_ (fun _ k => XS.aloadN X2.here hx rfl (hb hby own_d_jdk_65_method_123_22) rfl rfl k)
  show own_Goes p.tables e below P (T2.setTop (mkF m 23 #[.val (.ref b), .val (.int (8 : Int32)), .val (.ref b2)] [(.ref b), (.int (0 : Int32)), (.ref b2), (.int (0 : Int32)), (.ref b)]))
  have F7 : Arv Z h2 b k .int (4 : Int32) [(.int x0), (.int x1), (.int x2), (.int x3)] (.int 0) := (pr0.ext E2)
  have Vc8 := F7
  obtain ⟨cl8, Ar8, qc8, S8, Nn8, Hs8, Gs8⟩ := Vc8
  refine own_Goes.st ?_ (X2.arraylength hx (by rw [e2]; exact Ar8.1) (State.isArrayOf_alike hZ.alike Ar8.2.1) (g := (mkF m 23 #[.val (.ref b), .val (.int (8 : Int32)), .val (.ref b2)] [(.ref b), (.int (0 : Int32)), (.ref b2), (.int (0 : Int32)), (.ref b)])) rfl rfl (hb hby own_d_jdk_65_method_123_23))
  rw [len_of S8 Nn8]
  show own_Goes p.tables e below P (T2.setTop (mkF m 24 #[.val (.ref b), .val (.int (8 : Int32)), .val (.ref b2)] [(.int (4 : Int32)), (.int (0 : Int32)), (.ref b2), (.int (0 : Int32)), (.ref b)]))
  refine own_Goes.st ?_ (fun _ k => XS.iloadN X2.here hx rfl (hb hby own_d_jdk_65_method_123_24) rfl k)
  show own_Goes p.tables e below P (T2.setTop (mkF m 25 #[.val (.ref b), .val (.int (8 : Int32)), .val (.ref b2)] [(.int (8 : Int32)), (.int (4 : Int32)), (.int (0 : Int32)), (.ref b2), (.int (0 : Int32)), (.ref b)]))
  obtain ⟨_, _, ⟨T9, L9, k9, n9⟩, -, X9, ⟨Lc9, hQ9, l9, y9, z9⟩, st9⟩ := Jvm.LawKit.callS X2 hx (y := (⟨"java/lang/Math", "min", "(II)I"⟩ : MethodName)) hown (mvT hZ (hw _ (List.mem_of_getElem? (i := 30) rfl))) (mvT hZ (hw _ (List.mem_of_getElem? (i := 31) rfl))) (mvT hZ (hw _ (List.mem_of_getElem? (i := 32) rfl))) (mvT hZ (hw _ (List.mem_of_getElem? (i := 33) rfl))) (by decide) (backOf (W := 4) (rm_imin l Z a0 hw [] (4 : Int32) (8 : Int32) h2 n0 Z4) hZ (hw _ (List.mem_of_getElem? (i := 33) rfl)) (hw _ (List.mem_of_getElem? (i := 32) rfl)) (by decide) (by decide)) (g := (mkF m 25 #[.val (.ref b), .val (.int (8 : Int32)), .val (.ref b2)] [(.int (8 : Int32)), (.int (4 : Int32)), (.int (0 : Int32)), (.ref b2), (.int (0 : Int32)), (.ref b)])) rfl (by rw [hml]; rfl) (argsL := [(.int (4 : Int32)), (.int (8 : Int32))]) (rest := [(.int (0 : Int32)), (.ref b2), (.int (0 : Int32)), (.ref b)]) (lenOf own_pd__28_II_29_I rfl) rfl (by show 2 * 0 + _ ≤ _; exact Nat.le_of_eq rfl) (hb hby own_d_jdk_65_method_123_25) (fun _ _ => ⟨rfl, e2, (by decide : 1 + 0 ≤ _), (by decide : 8 + 0 ≤ _)⟩)
  dsimp only [Pt.U, Pt.locs, Pt.cells, Pt.slots] at X9 l9 y9 z9 st9 hQ9
  rw [l9, y9, z9] at X9
  obtain ⟨rfl, Nq9, e9⟩ := hQ9
  have N9 := Fr.app N0 Nq9
  refine own_Goes.st ?_ st9
  show own_Goes p.tables e below P (T9.setTop (mkF m 28 #[.val (.ref b), .val (.int (8 : Int32)), .val (.ref b2)] [(.int (own_imin (4 : Int32) (8 : Int32))), (.int (0 : Int32)), (.ref b2), (.int (0 : Int32)), (.ref b)]))
  rw [(rfl : own_imin (4 : Int32) (8 : Int32) = (4 : Int32))]
  show own_Goes p.tables e below P (T9.setTop (mkF m 28 #[.val (.ref b), .val (.int (8 : Int32)), .val (.ref b2)] [(.int (4 : Int32)), (.int (0 : Int32)), (.ref b2), (.int (0 : Int32)), (.ref b)]))
  obtain ⟨T10, h10, L10, X10, e10, N10, K10, V10, st10⟩ := cpA X9 hx hZ hown (hw _ (List.mem_of_getElem? (i := 34) rfl)) (hw _ (List.mem_of_getElem? (i := 37) rfl)) (hw _ (List.mem_of_getElem? (i := 35) rfl)) (hw _ (List.mem_of_getElem? (i := 36) rfl)) e9 (sp := (0 : Int32)) (dp := (0 : Int32)) (nn := (4 : Int32)) (us := [(.int x0), (.int x1), (.int x2), (.int x3)]) F7 V6 (Or.inl ⟨rfl, rfl⟩) (by decide) (by decide) (by decide) (by decide) (by decide) rfl (by decide) N9 ge_b2 (g := (mkF m 28 #[.val (.ref b), .val (.int (8 : Int32)), .val (.ref b2)] [(.int (4 : Int32)), (.int (0 : Int32)), (.ref b2), (.int (0 : Int32)), (.ref b)])) rfl (by rw [hml]; rfl) rfl (hb hby own_d_jdk_65_method_123_28) (by decide) (W := 0) (by show 2 * 0 + _ ≤ _; exact Nat.le_of_eq rfl) (by decide)
  refine own_Goes.st ?_ st10
  have V11 : Arv Z h10 b2 k2 .int (8 : Int32) [(.int x0), (.int x1), (.int x2), (.int x3), (.int (0 : Int32)), (.int (0 : Int32)), (.int (0 : Int32)), (.int (0 : Int32))] (.int 0) := V10
  have Z12 : n0 ≤ h10.size := Nat.le_trans Z4 K10.1
  have K13 := K5.trans K10 (allS (Or.inr sz_b2) all0)
  show own_Goes p.tables e below P (T10.setTop (mkF m 31 #[.val (.ref b), .val (.int (8 : Int32)), .val (.ref b2)] []))
  refine own_Goes.st ?_ (fun _ k => XS.aloadN X10.here hx rfl (hb hby own_d_jdk_65_method_123_31) rfl rfl k)
  show own_Goes p.tables e below P (T10.setTop (mkF m 32 #[.val (.ref b), .val (.int (8 : Int32)), .val (.ref b2)] [(.ref b2)]))
  obtain ⟨fs, hr, hrun, hended, hW, hsame⟩ := X10.leave (v := some (.ref b2)) (fun h => by rw [Bd.returns] at h; cases h)
  have F14 : Exa Z h10 b2 "[I" := (J2.keep K10)
  exact own_Goes.fin _ _ (retOut X10 hx (t := (.array .int)) Bd.returns rfl (Or.inr (Or.inr (Or.inr (Or.inr ⟨rfl, rfl, rfl⟩)))) (hb hby own_d_jdk_65_method_123_32) hr) (hPP _ _ ⟨hrun, hended, _, _, rfl, (by show Q_copy_4_4_8 Z b k x0 x1 x2 x3 h0 n0 _ T10.heap _; rw [e10]; exact ⟨b2, k2, rfl, N10, K13, sz_b2, V11, F14⟩), ⟨_, rfl⟩, hW, hsame.mono (by decide) (by decide)⟩)
theorem own_ef_add_4 (m : MethodId) (x0 : Addr) (x1 : Int32) : entryFrame m #[(.ref x0), (.int x1)] 2 = mkF m 0 #[.val (.ref x0), .val (.int x1)] [] := by first | (simp [entryFrame, mkF, argsToLocals, Value.category]; done) | rfl
theorem own_d_prog_11_method_5_12 : decode prog_11_method_5_code 12 = .ok (.aload_n 0, 1) := by decide +kernel
theorem own_d_prog_11_method_5_13 : decode prog_11_method_5_code 13 = .ok (.aload_n 0, 1) := by decide +kernel
theorem own_d_prog_11_method_5_14 : decode prog_11_method_5_code 14 = .ok (.getfield 7, 3) := by decide +kernel
theorem own_d_prog_11_method_5_17 : decode prog_11_method_5_code 17 = .ok (.iconst 2, 1) := by decide +kernel
theorem own_d_prog_11_method_5_18 : decode prog_11_method_5_code 18 = .ok (.aload_n 0, 1) := by decide +kernel
theorem own_d_prog_11_method_5_19 : decode prog_11_method_5_code 19 = .ok (.getfield 13, 3) := by decide +kernel
theorem own_d_prog_11_method_5_22 : decode prog_11_method_5_code 22 = .ok (.imul, 1) := by decide +kernel
theorem own_pd__28__5b_II_29__5b_I : parseMethodDescriptor "([II)[I" = some ⟨[(.array .int), .int], some (.array .int)⟩ := by decide +kernel
theorem own_d_prog_11_method_5_23 : decode prog_11_method_5_code 23 = .ok (.invokestatic 17, 3) := by decide +kernel
theorem own_d_prog_11_method_5_26 : decode prog_11_method_5_code 26 = .ok (.putfield 7, 3) := by decide +kernel
def Q_add_4 (Z : State) (a : Addr) (v : Int32) (b : Addr) (k : ClassId) (x0 : Int32) (x1 : Int32) (x2 : Int32) (x3 : Int32) (h0 : Heap) (n0 : Nat) (rv_ : Option Value) (h_ : Heap) (L_ : List Loc) : Prop := ∃ (b2 : Addr) (k2 : ClassId), rv_ = none ∧ Fr n0 L_ ∧ Keep h0 h_ [a, b] ∧ (Exa Z h_ a "com/example/usnea/usnea/datalog/IntList") ∧ (Fld Z h_ a "com/example/usnea/usnea/datalog/IntList" "values" "[I" (.ref b2)) ∧ (Fld Z h_ a "com/example/usnea/usnea/datalog/IntList" "size" "I" (.int (5 : Int32))) ∧ (h0.size ≤ b2) ∧ (Arv Z h_ b2 k2 .int (8 : Int32) [(.int x0), (.int x1), (.int x2), (.int x3), (.int v), (.int (0 : Int32)), (.int (0 : Int32)), (.int (0 : Int32))] (.int 0)) ∧ (Exa Z h_ b2 "[I")
set_option maxRecDepth 65536 in
set_option maxHeartbeats 40000000 in
theorem rm_add_4 (l : Launch) (Z : State) (a0 : Array Value) (hw : ∀ d ∈ tables_1, d.before a0 Z = true) (ws : List Jvm.Cond) (a : Addr) (v : Int32) (b : Addr) (k : ClassId) (x0 : Int32) (x1 : Int32) (x2 : Int32) (x3 : Int32) (h0 : Heap) (n0 : Nat) (Z0 : n0 ≤ h0.size) (pr0 : Exa Z h0 a "com/example/usnea/usnea/datalog/IntList") (pr1 : Fld Z h0 a "com/example/usnea/usnea/datalog/IntList" "values" "[I" (.ref b)) (pr2 : Fld Z h0 a "com/example/usnea/usnea/datalog/IntList" "size" "I" (.int (4 : Int32))) (pr3 : Arv Z h0 b k .int (4 : Int32) [(.int x0), (.int x1), (.int x2), (.int x3)] (.int 0)) (pr4 : Exa Z h0 b "[I") (pr5 : n0 ≤ a) (pr6 : n0 ≤ b) (pr7 : a ≠ b) :
    MetFree l (⟨"com/example/usnea/usnea/datalog/IntList", "add", "(I)V"⟩ : MethodName) (head1 (Jvm.Cond.code (⟨"com/example/usnea/usnea/datalog/IntList", "add", "(I)V"⟩ : MethodName) prog_11_method_5_code 2 none :: ws) ({ frames := 2, cells := 1, slots := 8, locals := 33 } : Room)) (fun as_ U => as_ = #[(.ref a), (.int v)] ∧ Z.Warmed39 U.vm ∧ U.heap = h0) (fun _ _ _ _ _ => True) (fun _ U o U' => ∃ rv_ L_, o = .returned rv_ ∧ Q_add_4 Z a v b k x0 x1 x2 x3 h0 n0 rv_ U'.heap L_ ∧ FrameEnd U o U' L_ ({ frames := 2, cells := 1, slots := 8, locals := 33 } : Room).cells ({ frames := 2, cells := 1, slots := 8, locals := 33 } : Room).slots) := by
  refine MetFree.of_bodySF (plainFor_of_name own_pn_com_example_usnea_usnea_datalog_IntList) hisR ?_
  intro p e s m args below meth c s₁ Bd hml0 hP hK
  obtain ⟨rfl, hZ, hh⟩ := hP
  have hx := Bd.exec
  have hby := Bd.bytes
  have hml : c.maxLocals = 2 := hml0
  have hown : s.vm.findClass "com/example/usnea/usnea/datalog/IntList" = some m.cls := findClass_of_methodNamed Bd.named
  have hnm := (name_of_methodNamed Bd.named Bd.method).1
  have X0 : Stand p l e ({ frames := 2, cells := 1, slots := 8, locals := 33 } : Room) s m #[(.ref a), (.int v)] below meth c s₁ [] 0 0 := Stand.of_body Bd
  have e0 : s₁.heap = h0 := by rw [← hh, Bd.state]; rfl
  have N0 := Fr.nil n0
  refine own_Goes.of ?_
  refine own_Goes.nm (fun P hPP => ?_)
  refine own_Goes.st ?_ (fun _ k => castTop (own_ef_add_4 m a v) k)
  have K0 : Keep h0 h0 [a, b] := Keep.refl _ _
  show own_Goes p.tables e below P (s₁.setTop (mkF m 0 #[.val (.ref a), .val (.int v)] []))
  refine own_Goes.st ?_ (fun _ k => XS.aloadN X0.here hx rfl (hb hby own_d_prog_11_method_5_0) rfl rfl k)
  show own_Goes p.tables e below P (s₁.setTop (mkF m 1 #[.val (.ref a), .val (.int v)] [(.ref a)]))
  obtain ⟨T1, X1, e1, st1⟩ := getF X0 hx hZ hown (host := "") (Or.inl (hw _ (List.mem_of_getElem? (i := 19) rfl))) Via.refl e0 pr2 (g := (mkF m 1 #[.val (.ref a), .val (.int v)] [(.ref a)])) rfl rfl (hb hby own_d_prog_11_method_5_1)
  refine own_Goes.st ?_ st1
  show own_Goes p.tables e below P (T1.setTop (mkF m 4 #[.val (.ref a), .val (.int v)] [(.int (4 : Int32))]))
  refine own_Goes.st ?_ (fun _ k => XS.aloadN X1.here hx rfl (hb hby own_d_prog_11_method_5_4) rfl rfl k)
  show own_Goes p.tables e below P (T1.setTop (mkF m 5 #[.val (.ref a), .val (.int v)] [(.ref a), (.int (4 : Int32))]))
  obtain ⟨T2, X2, e2, st2⟩ := getF X1 hx hZ hown (host := "") (Or.inl (hw _ (List.mem_of_getElem? (i := 12) rfl))) Via.refl e1 pr1 (g := (mkF m 5 #[.val (.ref a), .val (.int v)] [(.ref a), (.int (4 : Int32))])) rfl rfl (hb hby own_d_prog_11_method_5_5)
  refine own_Goes.st ?_ st2
  show own_Goes p.tables e below P (T2.setTop (mkF m 8 #[.val (.ref a), .val (.int v)] [(.ref b), (.int (4 : Int32))]))
  have Vc3 := pr3
  obtain ⟨cl3, Ar3, qc3, S3, Nn3, Hs3, Gs3⟩ := Vc3
  refine own_Goes.st ?_ (X2.arraylength hx (by rw [e2]; exact Ar3.1) (State.isArrayOf_alike hZ.alike Ar3.2.1) (g := (mkF m 8 #[.val (.ref a), .val (.int v)] [(.ref b), (.int (4 : Int32))])) rfl rfl (hb hby own_d_prog_11_method_5_8))
  rw [len_of S3 Nn3]
  show own_Goes p.tables e below P (T2.setTop (mkF m 9 #[.val (.ref a), .val (.int v)] [(.int (4 : Int32)), (.int (4 : Int32))]))
  refine own_Goes.st ?_ (fun _ k => XS.icmpNo X2.here hx rfl (hb hby own_d_prog_11_method_5_9) rfl (teq (by decide : (4 : Int32) = (4 : Int32))).2 k)
  show own_Goes p.tables e below P (T2.setTop (mkF m 12 #[.val (.ref a), .val (.int v)] []))
  refine own_Goes.st ?_ (fun _ k => XS.aloadN X2.here hx rfl (hb hby own_d_prog_11_method_5_12) rfl rfl k)
  show own_Goes p.tables e below P (T2.setTop (mkF m 13 #[.val (.ref a), .val (.int v)] [(.ref a)]))
  refine own_Goes.st ?_ (fun _ k => XS.aloadN X2.here hx rfl (hb hby own_d_prog_11_method_5_13) rfl rfl k)
  show own_Goes p.tables e below P (T2.setTop (mkF m 14 #[.val (.ref a), .val (.int v)] [(.ref a), (.ref a)]))
  obtain ⟨T4, X4, e4, st4⟩ := getF X2 hx hZ hown (host := "") (Or.inl (hw _ (List.mem_of_getElem? (i := 12) rfl))) Via.refl e2 pr1 (g := (mkF m 14 #[.val (.ref a), .val (.int v)] [(.ref a), (.ref a)])) rfl rfl (hb hby own_d_prog_11_method_5_14)
  refine own_Goes.st ?_ st4
  show own_Goes p.tables e below P (T4.setTop (mkF m 17 #[.val (.ref a), .val (.int v)] [(.ref b), (.ref a)]))
  refine own_Goes.st ?_ (fun _ k => XS.iconst X4.here hx rfl (hb hby own_d_prog_11_method_5_17) k)
  show own_Goes p.tables e below P (T4.setTop (mkF m 18 #[.val (.ref a), .val (.int v)] [(.int (2 : Int32)), (.ref b), (.ref a)]))
  refine own_Goes.st ?_ (fun _ k => XS.aloadN X4.here hx rfl (hb hby own_d_prog_11_method_5_18) rfl rfl k)
  show own_Goes p.tables e below P (T4.setTop (mkF m 19 #[.val (.ref a), .val (.int v)] [(.ref a), (.int (2 : Int32)), (.ref b), (.ref a)]))
  obtain ⟨T5, X5, e5, st5⟩ := getF X4 hx hZ hown (host := "") (Or.inl (hw _ (List.mem_of_getElem? (i := 19) rfl))) Via.refl e4 pr2 (g := (mkF m 19 #[.val (.ref a), .val (.int v)] [(.ref a), (.int (2 : Int32)), (.ref b), (.ref a)])) rfl rfl (hb hby own_d_prog_11_method_5_19)
  refine own_Goes.st ?_ st5
  show own_Goes p.tables e below P (T5.setTop (mkF m 22 #[.val (.ref a), .val (.int v)] [(.int (4 : Int32)), (.int (2 : Int32)), (.ref b), (.ref a)]))
  refine own_Goes.st ?_ (fun _ k => XS.imul X5.here hx rfl (hb hby own_d_prog_11_method_5_22) rfl k)
  show own_Goes p.tables e below P (T5.setTop (mkF m 23 #[.val (.ref a), .val (.int v)] [(.int (8 : Int32)), (.ref b), (.ref a)]))
  obtain ⟨_, _, ⟨T6, L6, k6, n6⟩, -, X6, ⟨Lc6, hQ6, l6, y6, z6⟩, st6⟩ := Jvm.LawKit.callS X5 hx (y := (⟨"java/util/Arrays", "copyOf", "([II)[I"⟩ : MethodName)) hown (mvT hZ (hw _ (List.mem_of_getElem? (i := 26) rfl))) (mvT hZ (hw _ (List.mem_of_getElem? (i := 27) rfl))) (mvT hZ (hw _ (List.mem_of_getElem? (i := 28) rfl))) (mvT hZ (hw _ (List.mem_of_getElem? (i := 29) rfl))) (by decide) (backOf (W := 1) (rm_copy_4_4_8 l Z a0 hw [] b k x0 x1 x2 x3 h0 n0 Z0 pr3 pr4) hZ (hw _ (List.mem_of_getElem? (i := 29) rfl)) (hw _ (List.mem_of_getElem? (i := 28) rfl)) (by decide) (by decide)) (g := (mkF m 23 #[.val (.ref a), .val (.int v)] [(.int (8 : Int32)), (.ref b), (.ref a)])) rfl (by rw [hml]; rfl) (argsL := [(.ref b), (.int (8 : Int32))]) (rest := [(.ref a)]) (lenOf own_pd__28__5b_II_29__5b_I rfl) rfl (by show 2 * 0 + _ ≤ _; exact Nat.le_of_eq rfl) (hb hby own_d_prog_11_method_5_23) (fun _ _ => ⟨rfl, e5, (by decide : 0 + 1 ≤ _), (by decide : 0 + 8 ≤ _)⟩)
  dsimp only [Pt.U, Pt.locs, Pt.cells, Pt.slots] at X6 l6 y6 z6 st6 hQ6
  rw [l6, y6, z6] at X6
  obtain ⟨r6, q6, rfl, Nq6, K6, f7, f8, f9⟩ := hQ6
  have N6 := Fr.app N0 Nq6
  refine own_Goes.st ?_ st6
  have ne10 : a ≠ r6 := Nat.ne_of_lt (Nat.lt_of_lt_of_le pr0.lt f7)
  have ne11 : b ≠ r6 := Nat.ne_of_lt (Nat.lt_of_lt_of_le pr3.lt f7)
  have ge_r6 : n0 ≤ r6 := Nat.le_trans Z0 f7
  have sz_r6 : h0.size ≤ r6 := Nat.le_trans K0.1 f7
  have Z12 : n0 ≤ T6.heap.size := Nat.le_trans Z0 K6.1
  have K13 := K0.trans K6 all0
  show own_Goes p.tables e below P (T6.setTop (mkF m 26 #[.val (.ref a), .val (.int v)] [(.ref r6), (.ref a)]))
  have F14 : Fld Z T6.heap a "com/example/usnea/usnea/datalog/IntList" "values" "[I" (.ref b) := (pr1.keep K6 nin0)
  have F15 : Exa Z T6.heap a "com/example/usnea/usnea/datalog/IntList" := (pr0.keep K6)
  obtain ⟨T16, h16, X16, e16, W16, st16⟩ := putF X6 hx hZ hown (host := "") (Or.inl (hw _ (List.mem_of_getElem? (i := 12) rfl))) Via.refl rfl F14 F15 (Or.inl (hw _ (List.mem_of_getElem? (i := 13) rfl))) (hw _ (List.mem_of_getElem? (i := 3) rfl)) (ty := (.array .int)) (by decide) rfl rfl (g := (mkF m 26 #[.val (.ref a), .val (.int v)] [(.ref r6), (.ref a)])) rfl rfl (hb hby own_d_prog_11_method_5_26)
  refine own_Goes.st ?_ st16
  have F17 : Fld Z h16 a "com/example/usnea/usnea/datalog/IntList" "values" "[I" (.ref r6) := F14.same W16
  have Z18 : n0 ≤ h16.size := by rw [W16.size]; exact Z12
  have K19 := K13.wr W16 (Or.inl (List.mem_of_getElem? (i := 0) rfl))
  have N20 := Fr.snoc X16 N6 pr5
  show own_Goes p.tables e below P (T16.setTop (mkF m 29 #[.val (.ref a), .val (.int v)] []))
  refine own_Goes.st ?_ (fun _ k => XS.aloadN X16.here hx rfl (hb hby own_d_prog_11_method_5_29) rfl rfl k)
  show own_Goes p.tables e below P (T16.setTop (mkF m 30 #[.val (.ref a), .val (.int v)] [(.ref a)]))
  obtain ⟨T21, X21, e21, st21⟩ := getF X16 hx hZ hown (host := "") (Or.inl (hw _ (List.mem_of_getElem? (i := 12) rfl))) Via.refl e16 F17 (g := (mkF m 30 #[.val (.ref a), .val (.int v)] [(.ref a)])) rfl rfl (hb hby own_d_prog_11_method_5_30)
  refine own_Goes.st ?_ st21
  show own_Goes p.tables e below P (T21.setTop (mkF m 33 #[.val (.ref a), .val (.int v)] [(.ref r6)]))
  refine own_Goes.st ?_ (fun _ k => XS.aloadN X21.here hx rfl (hb hby own_d_prog_11_method_5_33) rfl rfl k)
  show own_Goes p.tables e below P (T21.setTop (mkF m 34 #[.val (.ref a), .val (.int v)] [(.ref a), (.ref r6)]))
  refine own_Goes.st ?_ (fun _ k => XS.dup X21.here hx rfl (hb hby own_d_prog_11_method_5_34) rfl rfl k)
  show own_Goes p.tables e below P (T21.setTop (mkF m 35 #[.val (.ref a), .val (.int v)] [(.ref a), (.ref a), (.ref r6)]))
  have F22 : Fld Z h16 a "com/example/usnea/usnea/datalog/IntList" "size" "I" (.int (4 : Int32)) := ((pr2.keep K6 nin0).other W16 (Or.inr (slot_ne (Or.inl (hw _ (List.mem_of_getElem? (i := 20) rfl))) (Or.inl (hw _ (List.mem_of_getElem? (i := 13) rfl))) (by decide) (t := .int) (t' := (.array .int)) (by decide) (by decide))))
  obtain ⟨T23, X23, e23, st23⟩ := getF X21 hx hZ hown (host := "") (Or.inl (hw _ (List.mem_of_getElem? (i := 19) rfl))) Via.refl e21 F22 (g := (mkF m 35 #[.val (.ref a), .val (.int v)] [(.ref a), (.ref a), (.ref r6)])) rfl rfl (hb hby own_d_prog_11_method_5_35)
  refine own_Goes.st ?_ st23
  show own_Goes p.tables e below P (T23.setTop (mkF m 38 #[.val (.ref a), .val (.int v)] [(.int (4 : Int32)), (.ref a), (.ref r6)]))
  refine own_Goes.st ?_ (fun _ k => XS.dupX1 X23.here hx rfl (hb hby own_d_prog_11_method_5_38) rfl rfl rfl k)
  show own_Goes p.tables e below P (T23.setTop (mkF m 39 #[.val (.ref a), .val (.int v)] [(.int (4 : Int32)), (.ref a), (.int (4 : Int32)), (.ref r6)]))
  refine own_Goes.st ?_ (fun _ k => XS.iconst X23.here hx rfl (hb hby own_d_prog_11_method_5_39) k)
  show own_Goes p.tables e below P (T23.setTop (mkF m 40 #[.val (.ref a), .val (.int v)] [(.int (1 : Int32)), (.int (4 : Int32)), (.ref a), (.int (4 : Int32)), (.ref r6)]))
  refine own_Goes.st ?_ (fun _ k => XS.iadd X23.here hx rfl (hb hby own_d_prog_11_method_5_40) rfl k)
  show own_Goes p.tables e below P (T23.setTop (mkF m 41 #[.val (.ref a), .val (.int v)] [(.int (5 : Int32)), (.ref a), (.int (4 : Int32)), (.ref r6)]))
  have F24 : Exa Z h16 a "com/example/usnea/usnea/datalog/IntList" := (F15.wr W16)
  obtain ⟨T25, h25, X25, e25, W25, st25⟩ := putF X23 hx hZ hown (host := "") (Or.inl (hw _ (List.mem_of_getElem? (i := 19) rfl))) Via.refl e23 F22 F24 (Or.inl (hw _ (List.mem_of_getElem? (i := 20) rfl))) (hw _ (List.mem_of_getElem? (i := 3) rfl)) (ty := .int) (by decide) rfl rfl (g := (mkF m 41 #[.val (.ref a), .val (.int v)] [(.int (5 : Int32)), (.ref a), (.int (4 : Int32)), (.ref r6)])) rfl rfl (hb hby own_d_prog_11_method_5_41)
  refine own_Goes.st ?_ st25
  have F26 : Fld Z h25 a "com/example/usnea/usnea/datalog/IntList" "size" "I" (.int (5 : Int32)) := F22.same W25
  have Z27 : n0 ≤ h25.size := by rw [W25.size]; exact Z18
  have K28 := K19.wr W25 (Or.inl (List.mem_of_getElem? (i := 0) rfl))
  have N29 := Fr.snoc X25 N20 pr5
  show own_Goes p.tables e below P (T25.setTop (mkF m 44 #[.val (.ref a), .val (.int v)] [(.int (4 : Int32)), (.ref r6)]))
  refine own_Goes.st ?_ (fun _ k => XS.iloadN X25.here hx rfl (hb hby own_d_prog_11_method_5_44) rfl k)
  show own_Goes p.tables e below P (T25.setTop (mkF m 45 #[.val (.ref a), .val (.int v)] [(.int v), (.int (4 : Int32)), (.ref r6)]))
  have F30 : Arv Z h25 r6 q6 .int (8 : Int32) [(.int x0), (.int x1), (.int x2), (.int x3), (.int (0 : Int32)), (.int (0 : Int32)), (.int (0 : Int32)), (.int (0 : Int32))] (.int 0) := ((f8.other W16 (Ne.symm ne10)).other W25 (Ne.symm ne10))
  have Vc31 := F30
  obtain ⟨cl31, Ar31, qc31, S31, Nn31, Hs31, Gs31⟩ := Vc31
  have hin32 : ¬ ((4 : Int32) < 0 ∨ cl31.slots.size ≤ ((4 : Int32)).toNatClampNeg) := inb_of S31 ⟨by decide, by decide⟩
  obtain ⟨T32, h32, X32, e32, W32, st32⟩ := stI X25 hx hZ e25 Ar31 (j := (4 : Int32)) hin32 (g := (mkF m 45 #[.val (.ref a), .val (.int v)] [(.int v), (.int (4 : Int32)), (.ref r6)])) rfl rfl (hb hby own_d_prog_11_method_5_45)
  refine own_Goes.st ?_ st32
  have V33 : Arv Z h32 r6 q6 .int (8 : Int32) [(.int x0), (.int x1), (.int x2), (.int x3), (.int v), (.int (0 : Int32)), (.int (0 : Int32)), (.int (0 : Int32))] (.int 0) := Arv.set Ar31 qc31 S31 Nn31 Hs31 Gs31 rfl W32 4 rfl (Nat.le_of_ble_eq_true rfl)
  have Z34 : n0 ≤ h32.size := by rw [W32.size]; exact Z27
  have K35 := K28.wr W32 (Or.inr sz_r6)
  have N36 := Fr.snoc X32 N29 ge_r6
  show own_Goes p.tables e below P (T32.setTop (mkF m 46 #[.val (.ref a), .val (.int v)] []))
  have F37 : Fld Z h32 a "com/example/usnea/usnea/datalog/IntList" "values" "[I" (.ref r6) := ((F17.other W25 (Or.inr (slot_ne (Or.inl (hw _ (List.mem_of_getElem? (i := 13) rfl))) (Or.inl (hw _ (List.mem_of_getElem? (i := 20) rfl))) (by decide) (t := (.array .int)) (t' := .int) (by decide) (by decide)))).other W32 (Or.inl ne10))
  obtain ⟨fs, hr, hrun, hended, hW, hsame⟩ := X32.leave (v := none) (fun _ => rfl)
  have F38 : Exa Z h32 a "com/example/usnea/usnea/datalog/IntList" := ((F24.wr W25).wr W32)
  have F39 : Fld Z h32 a "com/example/usnea/usnea/datalog/IntList" "size" "I" (.int (5 : Int32)) := (F26.other W32 (Or.inl ne10))
  have F40 : Exa Z h32 r6 "[I" := (((f9.wr W16).wr W25).wr W32)
  exact own_Goes.fin _ _ (X32.returnOut hx Bd.returns (hb hby own_d_prog_11_method_5_46) hr) (hPP _ _ ⟨hrun, hended, _, _, rfl, (by show Q_add_4 Z a v b k x0 x1 x2 x3 h0 n0 _ T32.heap _; rw [e32]; exact ⟨r6, q6, rfl, N36, K35, F38, F37, F39, sz_r6, V33, F40⟩), ⟨_, rfl⟩, hW, hsame.mono (by decide) (by decide)⟩)
theorem own_ef_add_5 (m : MethodId) (x0 : Addr) (x1 : Int32) : entryFrame m #[(.ref x0), (.int x1)] 2 = mkF m 0 #[.val (.ref x0), .val (.int x1)] [] := by first | (simp [entryFrame, mkF, argsToLocals, Value.category]; done) | rfl
def Q_add_5 (Z : State) (a : Addr) (v : Int32) (b : Addr) (k : ClassId) (x0 : Int32) (x1 : Int32) (x2 : Int32) (x3 : Int32) (x4 : Int32) (h0 : Heap) (n0 : Nat) (rv_ : Option Value) (h_ : Heap) (L_ : List Loc) : Prop := rv_ = none ∧ Fr n0 L_ ∧ Keep h0 h_ [a, b] ∧ (Exa Z h_ a "com/example/usnea/usnea/datalog/IntList") ∧ (Fld Z h_ a "com/example/usnea/usnea/datalog/IntList" "values" "[I" (.ref b)) ∧ (Fld Z h_ a "com/example/usnea/usnea/datalog/IntList" "size" "I" (.int (6 : Int32))) ∧ (Arv Z h_ b k .int (8 : Int32) [(.int x0), (.int x1), (.int x2), (.int x3), (.int x4), (.int v), (.int (0 : Int32)), (.int (0 : Int32))] (.int 0)) ∧ (Exa Z h_ b "[I")
set_option maxRecDepth 65536 in
set_option maxHeartbeats 40000000 in
theorem rm_add_5 (l : Launch) (Z : State) (a0 : Array Value) (hw : ∀ d ∈ tables_1, d.before a0 Z = true) (ws : List Jvm.Cond) (a : Addr) (v : Int32) (b : Addr) (k : ClassId) (x0 : Int32) (x1 : Int32) (x2 : Int32) (x3 : Int32) (x4 : Int32) (h0 : Heap) (n0 : Nat) (Z0 : n0 ≤ h0.size) (pr0 : Exa Z h0 a "com/example/usnea/usnea/datalog/IntList") (pr1 : Fld Z h0 a "com/example/usnea/usnea/datalog/IntList" "values" "[I" (.ref b)) (pr2 : Fld Z h0 a "com/example/usnea/usnea/datalog/IntList" "size" "I" (.int (5 : Int32))) (pr3 : Arv Z h0 b k .int (8 : Int32) [(.int x0), (.int x1), (.int x2), (.int x3), (.int x4), (.int (0 : Int32)), (.int (0 : Int32)), (.int (0 : Int32))] (.int 0)) (pr4 : Exa Z h0 b "[I") (pr5 : n0 ≤ a) (pr6 : n0 ≤ b) (pr7 : a ≠ b) :
    MetFree l (⟨"com/example/usnea/usnea/datalog/IntList", "add", "(I)V"⟩ : MethodName) (head1 (Jvm.Cond.code (⟨"com/example/usnea/usnea/datalog/IntList", "add", "(I)V"⟩ : MethodName) prog_11_method_5_code 2 none :: ws) ({ frames := 0, cells := 0, slots := 0, locals := 0 } : Room)) (fun as_ U => as_ = #[(.ref a), (.int v)] ∧ Z.Warmed39 U.vm ∧ U.heap = h0) (fun _ _ _ _ _ => True) (fun _ U o U' => ∃ rv_ L_, o = .returned rv_ ∧ Q_add_5 Z a v b k x0 x1 x2 x3 x4 h0 n0 rv_ U'.heap L_ ∧ FrameEnd U o U' L_ ({ frames := 0, cells := 0, slots := 0, locals := 0 } : Room).cells ({ frames := 0, cells := 0, slots := 0, locals := 0 } : Room).slots) := by
  refine MetFree.of_bodySF (plainFor_of_name own_pn_com_example_usnea_usnea_datalog_IntList) hisR ?_
  intro p e s m args below meth c s₁ Bd hml0 hP hK
  obtain ⟨rfl, hZ, hh⟩ := hP
  have hx := Bd.exec
  have hby := Bd.bytes
  have hml : c.maxLocals = 2 := hml0
  have hown : s.vm.findClass "com/example/usnea/usnea/datalog/IntList" = some m.cls := findClass_of_methodNamed Bd.named
  have hnm := (name_of_methodNamed Bd.named Bd.method).1
  have X0 : Stand p l e ({ frames := 0, cells := 0, slots := 0, locals := 0 } : Room) s m #[(.ref a), (.int v)] below meth c s₁ [] 0 0 := Stand.of_body Bd
  have e0 : s₁.heap = h0 := by rw [← hh, Bd.state]; rfl
  have N0 := Fr.nil n0
  refine own_Goes.of ?_
  refine own_Goes.nm (fun P hPP => ?_)
  refine own_Goes.st ?_ (fun _ k => castTop (own_ef_add_5 m a v) k)
  have K0 : Keep h0 h0 [a, b] := Keep.refl _ _
  show own_Goes p.tables e below P (s₁.setTop (mkF m 0 #[.val (.ref a), .val (.int v)] []))
  refine own_Goes.st ?_ (fun _ k => XS.aloadN X0.here hx rfl (hb hby own_d_prog_11_method_5_0) rfl rfl k)
  show own_Goes p.tables e below P (s₁.setTop (mkF m 1 #[.val (.ref a), .val (.int v)] [(.ref a)]))
  obtain ⟨T1, X1, e1, st1⟩ := getF X0 hx hZ hown (host := "") (Or.inl (hw _ (List.mem_of_getElem? (i := 19) rfl))) Via.refl e0 pr2 (g := (mkF m 1 #[.val (.ref a), .val (.int v)] [(.ref a)])) rfl rfl (hb hby own_d_prog_11_method_5_1)
  refine own_Goes.st ?_ st1
  show own_Goes p.tables e below P (T1.setTop (mkF m 4 #[.val (.ref a), .val (.int v)] [(.int (5 : Int32))]))
  refine own_Goes.st ?_ (fun _ k => XS.aloadN X1.here hx rfl (hb hby own_d_prog_11_method_5_4) rfl rfl k)
  show own_Goes p.tables e below P (T1.setTop (mkF m 5 #[.val (.ref a), .val (.int v)] [(.ref a), (.int (5 : Int32))]))
  obtain ⟨T2, X2, e2, st2⟩ := getF X1 hx hZ hown (host := "") (Or.inl (hw _ (List.mem_of_getElem? (i := 12) rfl))) Via.refl e1 pr1 (g := (mkF m 5 #[.val (.ref a), .val (.int v)] [(.ref a), (.int (5 : Int32))])) rfl rfl (hb hby own_d_prog_11_method_5_5)
  refine own_Goes.st ?_ st2
  show own_Goes p.tables e below P (T2.setTop (mkF m 8 #[.val (.ref a), .val (.int v)] [(.ref b), (.int (5 : Int32))]))
  have Vc3 := pr3
  obtain ⟨cl3, Ar3, qc3, S3, Nn3, Hs3, Gs3⟩ := Vc3
  refine own_Goes.st ?_ (X2.arraylength hx (by rw [e2]; exact Ar3.1) (State.isArrayOf_alike hZ.alike Ar3.2.1) (g := (mkF m 8 #[.val (.ref a), .val (.int v)] [(.ref b), (.int (5 : Int32))])) rfl rfl (hb hby own_d_prog_11_method_5_8))
  rw [len_of S3 Nn3]
  show own_Goes p.tables e below P (T2.setTop (mkF m 9 #[.val (.ref a), .val (.int v)] [(.int (8 : Int32)), (.int (5 : Int32))]))
  refine own_Goes.st ?_ (fun _ k => XS.icmpYes X2.here hx rfl (pc0 := 9) (pc' := 29) rfl (hb hby own_d_prog_11_method_5_9) rfl (feq (by decide : ¬ ((5 : Int32) = (8 : Int32)))).2 (by decide) (by decide) k)
  show own_Goes p.tables e below P (T2.setTop (mkF m 29 #[.val (.ref a), .val (.int v)] []))
  refine own_Goes.st ?_ (fun _ k => XS.aloadN X2.here hx rfl (hb hby own_d_prog_11_method_5_29) rfl rfl k)
  show own_Goes p.tables e below P (T2.setTop (mkF m 30 #[.val (.ref a), .val (.int v)] [(.ref a)]))
  obtain ⟨T4, X4, e4, st4⟩ := getF X2 hx hZ hown (host := "") (Or.inl (hw _ (List.mem_of_getElem? (i := 12) rfl))) Via.refl e2 pr1 (g := (mkF m 30 #[.val (.ref a), .val (.int v)] [(.ref a)])) rfl rfl (hb hby own_d_prog_11_method_5_30)
  refine own_Goes.st ?_ st4
  show own_Goes p.tables e below P (T4.setTop (mkF m 33 #[.val (.ref a), .val (.int v)] [(.ref b)]))
  refine own_Goes.st ?_ (fun _ k => XS.aloadN X4.here hx rfl (hb hby own_d_prog_11_method_5_33) rfl rfl k)
  show own_Goes p.tables e below P (T4.setTop (mkF m 34 #[.val (.ref a), .val (.int v)] [(.ref a), (.ref b)]))
  refine own_Goes.st ?_ (fun _ k => XS.dup X4.here hx rfl (hb hby own_d_prog_11_method_5_34) rfl rfl k)
  show own_Goes p.tables e below P (T4.setTop (mkF m 35 #[.val (.ref a), .val (.int v)] [(.ref a), (.ref a), (.ref b)]))
  obtain ⟨T5, X5, e5, st5⟩ := getF X4 hx hZ hown (host := "") (Or.inl (hw _ (List.mem_of_getElem? (i := 19) rfl))) Via.refl e4 pr2 (g := (mkF m 35 #[.val (.ref a), .val (.int v)] [(.ref a), (.ref a), (.ref b)])) rfl rfl (hb hby own_d_prog_11_method_5_35)
  refine own_Goes.st ?_ st5
  show own_Goes p.tables e below P (T5.setTop (mkF m 38 #[.val (.ref a), .val (.int v)] [(.int (5 : Int32)), (.ref a), (.ref b)]))
  refine own_Goes.st ?_ (fun _ k => XS.dupX1 X5.here hx rfl (hb hby own_d_prog_11_method_5_38) rfl rfl rfl k)
  show own_Goes p.tables e below P (T5.setTop (mkF m 39 #[.val (.ref a), .val (.int v)] [(.int (5 : Int32)), (.ref a), (.int (5 : Int32)), (.ref b)]))
  refine own_Goes.st ?_ (fun _ k => XS.iconst X5.here hx rfl (hb hby own_d_prog_11_method_5_39) k)
  show own_Goes p.tables e below P (T5.setTop (mkF m 40 #[.val (.ref a), .val (.int v)] [(.int (1 : Int32)), (.int (5 : Int32)), (.ref a), (.int (5 : Int32)), (.ref b)]))
  refine own_Goes.st ?_ (fun _ k => XS.iadd X5.here hx rfl (hb hby own_d_prog_11_method_5_40) rfl k)
  show own_Goes p.tables e below P (T5.setTop (mkF m 41 #[.val (.ref a), .val (.int v)] [(.int (6 : Int32)), (.ref a), (.int (5 : Int32)), (.ref b)]))
  obtain ⟨T6, h6, X6, e6, W6, st6⟩ := putF X5 hx hZ hown (host := "") (Or.inl (hw _ (List.mem_of_getElem? (i := 19) rfl))) Via.refl e5 pr2 pr0 (Or.inl (hw _ (List.mem_of_getElem? (i := 20) rfl))) (hw _ (List.mem_of_getElem? (i := 3) rfl)) (ty := .int) (by decide) rfl rfl (g := (mkF m 41 #[.val (.ref a), .val (.int v)] [(.int (6 : Int32)), (.ref a), (.int (5 : Int32)), (.ref b)])) rfl rfl (hb hby own_d_prog_11_method_5_41)
  refine own_Goes.st ?_ st6
  have F7 : Fld Z h6 a "com/example/usnea/usnea/datalog/IntList" "size" "I" (.int (6 : Int32)) := pr2.same W6
  have Z8 : n0 ≤ h6.size := by rw [W6.size]; exact Z0
  have K9 := K0.wr W6 (Or.inl (List.mem_of_getElem? (i := 0) rfl))
  have N10 := Fr.snoc X6 N0 pr5
  show own_Goes p.tables e below P (T6.setTop (mkF m 44 #[.val (.ref a), .val (.int v)] [(.int (5 : Int32)), (.ref b)]))
  refine own_Goes.st ?_ (fun _ k => XS.iloadN X6.here hx rfl (hb hby own_d_prog_11_method_5_44) rfl k)
  show own_Goes p.tables e below P (T6.setTop (mkF m 45 #[.val (.ref a), .val (.int v)] [(.int v), (.int (5 : Int32)), (.ref b)]))
  have F11 : Arv Z h6 b k .int (8 : Int32) [(.int x0), (.int x1), (.int x2), (.int x3), (.int x4), (.int (0 : Int32)), (.int (0 : Int32)), (.int (0 : Int32))] (.int 0) := (pr3.other W6 (Ne.symm pr7))
  have Vc12 := F11
  obtain ⟨cl12, Ar12, qc12, S12, Nn12, Hs12, Gs12⟩ := Vc12
  have hin13 : ¬ ((5 : Int32) < 0 ∨ cl12.slots.size ≤ ((5 : Int32)).toNatClampNeg) := inb_of S12 ⟨by decide, by decide⟩
  obtain ⟨T13, h13, X13, e13, W13, st13⟩ := stI X6 hx hZ e6 Ar12 (j := (5 : Int32)) hin13 (g := (mkF m 45 #[.val (.ref a), .val (.int v)] [(.int v), (.int (5 : Int32)), (.ref b)])) rfl rfl (hb hby own_d_prog_11_method_5_45)
  refine own_Goes.st ?_ st13
  have V14 : Arv Z h13 b k .int (8 : Int32) [(.int x0), (.int x1), (.int x2), (.int x3), (.int x4), (.int v), (.int (0 : Int32)), (.int (0 : Int32))] (.int 0) := Arv.set Ar12 qc12 S12 Nn12 Hs12 Gs12 rfl W13 5 rfl (Nat.le_of_ble_eq_true rfl)
  have Z15 : n0 ≤ h13.size := by rw [W13.size]; exact Z8
  have K16 := K9.wr W13 (Or.inl (List.mem_of_getElem? (i := 1) rfl))
  have N17 := Fr.snoc X13 N10 pr6
  show own_Goes p.tables e below P (T13.setTop (mkF m 46 #[.val (.ref a), .val (.int v)] []))
  have F18 : Fld Z h13 a "com/example/usnea/usnea/datalog/IntList" "values" "[I" (.ref b) := ((pr1.other W6 (Or.inr (slot_ne (Or.inl (hw _ (List.mem_of_getElem? (i := 13) rfl))) (Or.inl (hw _ (List.mem_of_getElem? (i := 20) rfl))) (by decide) (t := (.array .int)) (t' := .int) (by decide) (by decide)))).other W13 (Or.inl pr7))
  obtain ⟨fs, hr, hrun, hended, hW, hsame⟩ := X13.leave (v := none) (fun _ => rfl)
  have F19 : Exa Z h13 a "com/example/usnea/usnea/datalog/IntList" := ((pr0.wr W6).wr W13)
  have F20 : Fld Z h13 a "com/example/usnea/usnea/datalog/IntList" "size" "I" (.int (6 : Int32)) := (F7.other W13 (Or.inl pr7))
  have F21 : Exa Z h13 b "[I" := ((pr4.wr W6).wr W13)
  exact own_Goes.fin _ _ (X13.returnOut hx Bd.returns (hb hby own_d_prog_11_method_5_46) hr) (hPP _ _ ⟨hrun, hended, _, _, rfl, (by show Q_add_5 Z a v b k x0 x1 x2 x3 x4 h0 n0 _ T13.heap _; rw [e13]; exact ⟨rfl, N17, K16, F19, F18, F20, V14, F21⟩), ⟨_, rfl⟩, hW, hsame.mono (by decide) (by decide)⟩)
theorem own_ef_copy_0_4_0 (m : MethodId) (x0 : Addr) : entryFrame m #[(.ref x0), (.int (0 : Int32))] 3 = mkF m 0 #[.val (.ref x0), .val (.int (0 : Int32)), .unset] [] := by first | (simp [entryFrame, mkF, argsToLocals, Value.category]; done) | rfl
def Q_copy_0_4_0 (Z : State) (b : Addr) (k : ClassId) (h0 : Heap) (n0 : Nat) (rv_ : Option Value) (h_ : Heap) (L_ : List Loc) : Prop := ∃ (r : Addr) (q : ClassId), rv_ = some (.ref r) ∧ Fr n0 L_ ∧ Keep h0 h_ [] ∧ (h0.size ≤ r) ∧ (Arv Z h_ r q .int (0 : Int32) [] (.int 0)) ∧ (Exa Z h_ r "[I")
set_option maxRecDepth 65536 in
set_option maxHeartbeats 40000000 in
theorem rm_copy_0_4_0 (l : Launch) (Z : State) (a0 : Array Value) (hw : ∀ d ∈ tables_1, d.before a0 Z = true) (ws : List Jvm.Cond) (b : Addr) (k : ClassId) (h0 : Heap) (n0 : Nat) (Z0 : n0 ≤ h0.size) (pr0 : Arv Z h0 b k .int (4 : Int32) [(.int (0 : Int32)), (.int (0 : Int32)), (.int (0 : Int32)), (.int (0 : Int32))] (.int 0)) (pr1 : Exa Z h0 b "[I") :
    MetFree l (⟨"java/util/Arrays", "copyOf", "([II)[I"⟩ : MethodName) (head1 (Jvm.Cond.code (⟨"java/util/Arrays", "copyOf", "([II)[I"⟩ : MethodName) jdk_65_method_123_code 3 (some (.array .int)) :: ws) ({ frames := 1, cells := 1, slots := 0, locals := 18 } : Room)) (fun as_ U => as_ = #[(.ref b), (.int (0 : Int32))] ∧ Z.Warmed39 U.vm ∧ U.heap = h0) (fun _ _ _ _ _ => True) (fun _ U o U' => ∃ rv_ L_, o = .returned rv_ ∧ Q_copy_0_4_0 Z b k h0 n0 rv_ U'.heap L_ ∧ FrameEnd U o U' L_ ({ frames := 1, cells := 1, slots := 0, locals := 18 } : Room).cells ({ frames := 1, cells := 1, slots := 0, locals := 18 } : Room).slots) := by
  refine MetFree.of_bodySF (plainFor_of_name own_pn_java_util_Arrays) hisR ?_
  intro p e s m args below meth c s₁ Bd hml0 hP hK
  obtain ⟨rfl, hZ, hh⟩ := hP
  have hx := Bd.exec
  have hby := Bd.bytes
  have hml : c.maxLocals = 3 := hml0
  have hown : s.vm.findClass "java/util/Arrays" = some m.cls := findClass_of_methodNamed Bd.named
  have hnm := (name_of_methodNamed Bd.named Bd.method).1
  have X0 : Stand p l e ({ frames := 1, cells := 1, slots := 0, locals := 18 } : Room) s m #[(.ref b), (.int (0 : Int32))] below meth c s₁ [] 0 0 := Stand.of_body Bd
  have e0 : s₁.heap = h0 := by rw [← hh, Bd.state]; rfl
  have N0 := Fr.nil n0
  refine own_Goes.of ?_
  refine own_Goes.nm (fun P hPP => ?_)
  refine own_Goes.st ?_ (fun _ k => castTop (own_ef_copy_0_4_0 m b) k)
  have K0 : Keep h0 h0 [] := Keep.refl _ _
  show own_Goes p.tables e below P (s₁.setTop (mkF m 0 #[.val (.ref b), .val (.int (0 : Int32)), .unset] []))
  refine own_Goes.st ?_ (fun _ k => XS.iloadN X0.here hx rfl (hb hby own_d_jdk_65_method_123_0) rfl k)
  show own_Goes p.tables e below P (s₁.setTop (mkF m 1 #[.val (.ref b), .val (.int (0 : Int32)), .unset] [(.int (0 : Int32))]))
  refine own_Goes.st ?_ (fun _ k => XS.aloadN X0.here hx rfl (hb hby own_d_jdk_65_method_123_1) rfl rfl k)
  show own_Goes p.tables e below P (s₁.setTop (mkF m 2 #[.val (.ref b), .val (.int (0 : Int32)), .unset] [(.ref b), (.int (0 : Int32))]))
  have Vc1 := pr0
  obtain ⟨cl1, Ar1, qc1, S1, Nn1, Hs1, Gs1⟩ := Vc1
  refine own_Goes.st ?_ (X0.arraylength hx (by rw [e0]; exact Ar1.1) (State.isArrayOf_alike hZ.alike Ar1.2.1) (g := (mkF m 2 #[.val (.ref b), .val (.int (0 : Int32)), .unset] [(.ref b), (.int (0 : Int32))])) rfl rfl (hb hby own_d_jdk_65_method_123_2))
  rw [len_of S1 Nn1]
  show own_Goes p.tables e below P (s₁.setTop (mkF m 3 #[.val (.ref b), .val (.int (0 : Int32)), .unset] [(.int (4 : Int32)), (.int (0 : Int32))]))
  refine own_Goes.st ?_ (fun _ k => XS.icmpYes X0.here hx rfl (pc0 := 3) (pc' := 14) rfl (hb hby own_d_jdk_65_method_123_3) rfl (feq (by decide : ¬ ((0 : Int32) = (4 : Int32)))).2 (by decide) (by decide) k)
  show own_Goes p.tables e below P (s₁.setTop (mkF m 14 #[.val (.ref b), .val (.int (0 : Int32)), .unset] []))
  refine own_Goes.st ?_ (fun _ k => XS.iloadN X0.here hx rfl (hb hby own_d_jdk_65_method_123_14) rfl k)
  show own_Goes p.tables e below P (s₁.setTop (mkF m 15 #[.val (.ref b), .val (.int (0 : Int32)), .unset] [(.int (0 : Int32))]))
  obtain ⟨T2, h2, k2, X2, e2, E2, A2, J2, st2⟩ := newPE X0 hx hZ (hw _ (List.mem_of_getElem? (i := 11) rfl)) e0 (g := (mkF m 15 #[.val (.ref b), .val (.int (0 : Int32)), .unset] [(.int (0 : Int32))])) rfl (hb hby own_d_jdk_65_method_123_15) rfl (by decide) (cap := 0) (by decide) (by decide) (by decide) (by decide) (ad := "[I") rfl
  obtain ⟨b2, g2⟩ : ∃ z, z = h0.size := ⟨_, rfl⟩
  rw [← g2] at A2 J2 st2
  have ne3 : b ≠ b2 := Nat.ne_of_lt (Nat.lt_of_lt_of_eq pr0.lt g2.symm)
  have ge_b2 : n0 ≤ b2 := Nat.le_trans Z0 (Nat.le_of_eq g2.symm)
  have sz_b2 : h0.size ≤ b2 := Nat.le_trans K0.1 (Nat.le_of_eq g2.symm)
  refine own_Goes.st ?_ st2
  have Z4 : n0 ≤ h2.size := Nat.le_trans Z0 E2.1
  have K5 := K0.ext E2
  have V6 : Arv Z h2 b2 k2 .int (0 : Int32) [] (.int 0) := (Arv.new A2 (by decide)).pad (pad_rep [] _ 0)
  show own_Goes p.tables e below P (T2.setTop (mkF m 17 #[.val (.ref b), .val (.int (0 : Int32)), .unset] [(.ref b2)]))
  refine own_Goes.st ?_ (fun _ k => XS.astoreN X2.here hx rfl (hb hby own_d_jdk_65_method_123_17) rfl rfl (l' := #[.val (.ref b), .val (.int (0 : Int32)), .val (.ref b2)]) rfl k)
  show own_Goes p.tables e below P (T2.setTop (mkF m 18 #[.val (.ref b), .val (.int (0 : Int32)), .val (.ref b2)] []))
  refine own_Goes.st ?_ (fun _ k => XS.aloadN X2.here hx rfl (hb hby own_d_jdk_65_method_123_18) rfl rfl k)
  show own_Goes p.tables e below P (T2.setTop (mkF m 19 #[.val (.ref b), .val (.int (0 : Int32)), .val (.ref b2)] [(.ref b)]))
  refine own_Goes.st ?_ (fun _ k => XS.iconst X2.here hx rfl (hb hby own_d_jdk_65_method_123_19) k)
  show own_Goes p.tables e below P (T2.setTop (mkF m 20 #[.val (.ref b), .val (.int (0 : Int32)), .val (.ref b2)] [(.int (0 : Int32)), (.ref b)]))
  refine own_Goes.st ?_ (fun _ k => XS.aloadN X2.here hx rfl (hb hby own_d_jdk_65_method_123_20) rfl rfl k)
  show own_Goes p.tables e below P (T2.setTop (mkF m 21 #[.val (.ref b), .val (.int (0 : Int32)), .val (.ref b2)] [(.ref b2), (.int (0 : Int32)), (.ref b)]))
  refine own_Goes.st ?_ (fun _ k => XS.iconst X2.here hx rfl (hb hby own_d_jdk_65_method_123_21) k)
  show own_Goes p.tables e below P (T2.setTop (mkF m 22 #[.val (.ref b), .val (.int (0 : Int32)), .val (.ref b2)] [(.int (0 : Int32)), (.ref b2), (.int (0 : Int32)), (.ref b)]))
  refine own_Goes.st ?_ (fun _ k => XS.aloadN X2.here hx rfl (hb hby own_d_jdk_65_method_123_22) rfl rfl k)
  show own_Goes p.tables e below P (T2.setTop (mkF m 23 #[.val (.ref b), .val (.int (0 : Int32)), .val (.ref b2)] [(.ref b), (.int (0 : Int32)), (.ref b2), (.int (0 : Int32)), (.ref b)]))
  have F7 : Arv Z h2 b k .int (4 : Int32) [(.int (0 : Int32)), (.int (0 : Int32)), (.int (0 : Int32)), (.int (0 : Int32))] (.int 0) := (pr0.ext E2)
  have Vc8 := F7
  obtain ⟨cl8, Ar8, qc8, S8, Nn8, Hs8, Gs8⟩ := Vc8
  refine own_Goes.st ?_ (X2.arraylength hx (by rw [e2]; exact Ar8.1) (State.isArrayOf_alike hZ.alike Ar8.2.1) (g := (mkF m 23 #[.val (.ref b), .val (.int (0 : Int32)), .val (.ref b2)] [(.ref b), (.int (0 : Int32)), (.ref b2), (.int (0 : Int32)), (.ref b)])) rfl rfl (hb hby own_d_jdk_65_method_123_23))
  rw [len_of S8 Nn8]
  show own_Goes p.tables e below P (T2.setTop (mkF m 24 #[.val (.ref b), .val (.int (0 : Int32)), .val (.ref b2)] [(.int (4 : Int32)), (.int (0 : Int32)), (.ref b2), (.int (0 : Int32)), (.ref b)]))
  refine own_Goes.st ?_ (fun _ k => XS.iloadN X2.here hx rfl (hb hby own_d_jdk_65_method_123_24) rfl k)
  show own_Goes p.tables e below P (T2.setTop (mkF m 25 #[.val (.ref b), .val (.int (0 : Int32)), .val (.ref b2)] [(.int (0 : Int32)), (.int (4 : Int32)), (.int (0 : Int32)), (.ref b2), (.int (0 : Int32)), (.ref b)]))
  obtain ⟨_, _, ⟨T9, L9, k9, n9⟩, -, X9, ⟨Lc9, hQ9, l9, y9, z9⟩, st9⟩ := Jvm.LawKit.callS X2 hx (y := (⟨"java/lang/Math", "min", "(II)I"⟩ : MethodName)) hown (mvT hZ (hw _ (List.mem_of_getElem? (i := 30) rfl))) (mvT hZ (hw _ (List.mem_of_getElem? (i := 31) rfl))) (mvT hZ (hw _ (List.mem_of_getElem? (i := 32) rfl))) (mvT hZ (hw _ (List.mem_of_getElem? (i := 33) rfl))) (by decide) (backOf (W := 4) (rm_imin l Z a0 hw [] (4 : Int32) (0 : Int32) h2 n0 Z4) hZ (hw _ (List.mem_of_getElem? (i := 33) rfl)) (hw _ (List.mem_of_getElem? (i := 32) rfl)) (by decide) (by decide)) (g := (mkF m 25 #[.val (.ref b), .val (.int (0 : Int32)), .val (.ref b2)] [(.int (0 : Int32)), (.int (4 : Int32)), (.int (0 : Int32)), (.ref b2), (.int (0 : Int32)), (.ref b)])) rfl (by rw [hml]; rfl) (argsL := [(.int (4 : Int32)), (.int (0 : Int32))]) (rest := [(.int (0 : Int32)), (.ref b2), (.int (0 : Int32)), (.ref b)]) (lenOf own_pd__28_II_29_I rfl) rfl (by show 2 * 0 + _ ≤ _; exact Nat.le_of_eq rfl) (hb hby own_d_jdk_65_method_123_25) (fun _ _ => ⟨rfl, e2, (by decide : 1 + 0 ≤ _), (by decide : 0 + 0 ≤ _)⟩)
  dsimp only [Pt.U, Pt.locs, Pt.cells, Pt.slots] at X9 l9 y9 z9 st9 hQ9
  rw [l9, y9, z9] at X9
  obtain ⟨rfl, Nq9, e9⟩ := hQ9
  have N9 := Fr.app N0 Nq9
  refine own_Goes.st ?_ st9
  show own_Goes p.tables e below P (T9.setTop (mkF m 28 #[.val (.ref b), .val (.int (0 : Int32)), .val (.ref b2)] [(.int (own_imin (4 : Int32) (0 : Int32))), (.int (0 : Int32)), (.ref b2), (.int (0 : Int32)), (.ref b)]))
  rw [(rfl : own_imin (4 : Int32) (0 : Int32) = (0 : Int32))]
  show own_Goes p.tables e below P (T9.setTop (mkF m 28 #[.val (.ref b), .val (.int (0 : Int32)), .val (.ref b2)] [(.int (0 : Int32)), (.int (0 : Int32)), (.ref b2), (.int (0 : Int32)), (.ref b)]))
  obtain ⟨T10, h10, L10, X10, e10, N10, K10, V10, st10⟩ := cpA X9 hx hZ hown (hw _ (List.mem_of_getElem? (i := 34) rfl)) (hw _ (List.mem_of_getElem? (i := 37) rfl)) (hw _ (List.mem_of_getElem? (i := 35) rfl)) (hw _ (List.mem_of_getElem? (i := 36) rfl)) e9 (sp := (0 : Int32)) (dp := (0 : Int32)) (nn := (0 : Int32)) (us := []) F7 V6 (Or.inl ⟨rfl, rfl⟩) (by decide) (by decide) (by decide) (by decide) (by decide) rfl (by decide) N9 ge_b2 (g := (mkF m 28 #[.val (.ref b), .val (.int (0 : Int32)), .val (.ref b2)] [(.int (0 : Int32)), (.int (0 : Int32)), (.ref b2), (.int (0 : Int32)), (.ref b)])) rfl (by rw [hml]; rfl) rfl (hb hby own_d_jdk_65_method_123_28) (by decide) (W := 0) (by show 2 * 0 + _ ≤ _; exact Nat.le_of_eq rfl) (by decide)
  refine own_Goes.st ?_ st10
  have V11 : Arv Z h10 b2 k2 .int (0 : Int32) [] (.int 0) := V10
  have Z12 : n0 ≤ h10.size := Nat.le_trans Z4 K10.1
  have K13 := K5.trans K10 (allS (Or.inr sz_b2) all0)
  show own_Goes p.tables e below P (T10.setTop (mkF m 31 #[.val (.ref b), .val (.int (0 : Int32)), .val (.ref b2)] []))
  refine own_Goes.st ?_ (fun _ k => XS.aloadN X10.here hx rfl (hb hby own_d_jdk_65_method_123_31) rfl rfl k)
  show own_Goes p.tables e below P (T10.setTop (mkF m 32 #[.val (.ref b), .val (.int (0 : Int32)), .val (.ref b2)] [(.ref b2)]))
  obtain ⟨fs, hr, hrun, hended, hW, hsame⟩ := X10.leave (v := some (.ref b2)) (fun h => by rw [Bd.returns] at h; cases h)
  have F14 : Exa Z h10 b2 "[I" := (J2.keep K10)
  exact own_Goes.fin _ _ (retOut X10 hx (t := (.array .int)) Bd.returns rfl (Or.inr (Or.inr (Or.inr (Or.inr ⟨rfl, rfl, rfl⟩)))) (hb hby own_d_jdk_65_method_123_32) hr) (hPP _ _ ⟨hrun, hended, _, _, rfl, (by show Q_copy_0_4_0 Z b k h0 n0 _ T10.heap _; rw [e10]; exact ⟨b2, k2, rfl, N10, K13, sz_b2, V11, F14⟩), ⟨_, rfl⟩, hW, hsame.mono (by decide) (by decide)⟩)
theorem own_ef_copy_1_4_1 (m : MethodId) (x0 : Addr) : entryFrame m #[(.ref x0), (.int (1 : Int32))] 3 = mkF m 0 #[.val (.ref x0), .val (.int (1 : Int32)), .unset] [] := by first | (simp [entryFrame, mkF, argsToLocals, Value.category]; done) | rfl
def Q_copy_1_4_1 (Z : State) (b : Addr) (k : ClassId) (x0 : Int32) (h0 : Heap) (n0 : Nat) (rv_ : Option Value) (h_ : Heap) (L_ : List Loc) : Prop := ∃ (r : Addr) (q : ClassId), rv_ = some (.ref r) ∧ Fr n0 L_ ∧ Keep h0 h_ [] ∧ (h0.size ≤ r) ∧ (Arv Z h_ r q .int (1 : Int32) [(.int x0)] (.int 0)) ∧ (Exa Z h_ r "[I")
set_option maxRecDepth 65536 in
set_option maxHeartbeats 40000000 in
theorem rm_copy_1_4_1 (l : Launch) (Z : State) (a0 : Array Value) (hw : ∀ d ∈ tables_1, d.before a0 Z = true) (ws : List Jvm.Cond) (b : Addr) (k : ClassId) (x0 : Int32) (h0 : Heap) (n0 : Nat) (Z0 : n0 ≤ h0.size) (pr0 : Arv Z h0 b k .int (4 : Int32) [(.int x0), (.int (0 : Int32)), (.int (0 : Int32)), (.int (0 : Int32))] (.int 0)) (pr1 : Exa Z h0 b "[I") :
    MetFree l (⟨"java/util/Arrays", "copyOf", "([II)[I"⟩ : MethodName) (head1 (Jvm.Cond.code (⟨"java/util/Arrays", "copyOf", "([II)[I"⟩ : MethodName) jdk_65_method_123_code 3 (some (.array .int)) :: ws) ({ frames := 1, cells := 1, slots := 1, locals := 18 } : Room)) (fun as_ U => as_ = #[(.ref b), (.int (1 : Int32))] ∧ Z.Warmed39 U.vm ∧ U.heap = h0) (fun _ _ _ _ _ => True) (fun _ U o U' => ∃ rv_ L_, o = .returned rv_ ∧ Q_copy_1_4_1 Z b k x0 h0 n0 rv_ U'.heap L_ ∧ FrameEnd U o U' L_ ({ frames := 1, cells := 1, slots := 1, locals := 18 } : Room).cells ({ frames := 1, cells := 1, slots := 1, locals := 18 } : Room).slots) := by
  refine MetFree.of_bodySF (plainFor_of_name own_pn_java_util_Arrays) hisR ?_
  intro p e s m args below meth c s₁ Bd hml0 hP hK
  obtain ⟨rfl, hZ, hh⟩ := hP
  have hx := Bd.exec
  have hby := Bd.bytes
  have hml : c.maxLocals = 3 := hml0
  have hown : s.vm.findClass "java/util/Arrays" = some m.cls := findClass_of_methodNamed Bd.named
  have hnm := (name_of_methodNamed Bd.named Bd.method).1
  have X0 : Stand p l e ({ frames := 1, cells := 1, slots := 1, locals := 18 } : Room) s m #[(.ref b), (.int (1 : Int32))] below meth c s₁ [] 0 0 := Stand.of_body Bd
  have e0 : s₁.heap = h0 := by rw [← hh, Bd.state]; rfl
  have N0 := Fr.nil n0
  refine own_Goes.of ?_
  refine own_Goes.nm (fun P hPP => ?_)
  refine own_Goes.st ?_ (fun _ k => castTop (own_ef_copy_1_4_1 m b) k)
  have K0 : Keep h0 h0 [] := Keep.refl _ _
  show own_Goes p.tables e below P (s₁.setTop (mkF m 0 #[.val (.ref b), .val (.int (1 : Int32)), .unset] []))
  refine own_Goes.st ?_ (fun _ k => XS.iloadN X0.here hx rfl (hb hby own_d_jdk_65_method_123_0) rfl k)
  show own_Goes p.tables e below P (s₁.setTop (mkF m 1 #[.val (.ref b), .val (.int (1 : Int32)), .unset] [(.int (1 : Int32))]))
  refine own_Goes.st ?_ (fun _ k => XS.aloadN X0.here hx rfl (hb hby own_d_jdk_65_method_123_1) rfl rfl k)
  show own_Goes p.tables e below P (s₁.setTop (mkF m 2 #[.val (.ref b), .val (.int (1 : Int32)), .unset] [(.ref b), (.int (1 : Int32))]))
  have Vc1 := pr0
  obtain ⟨cl1, Ar1, qc1, S1, Nn1, Hs1, Gs1⟩ := Vc1
  refine own_Goes.st ?_ (X0.arraylength hx (by rw [e0]; exact Ar1.1) (State.isArrayOf_alike hZ.alike Ar1.2.1) (g := (mkF m 2 #[.val (.ref b), .val (.int (1 : Int32)), .unset] [(.ref b), (.int (1 : Int32))])) rfl rfl (hb hby own_d_jdk_65_method_123_2))
  rw [len_of S1 Nn1]
  show own_Goes p.tables e below P (s₁.setTop (mkF m 3 #[.val (.ref b), .val (.int (1 : Int32)), .unset] [(.int (4 : Int32)), (.int (1 : Int32))]))
  refine own_Goes.st ?_ (fun _ k => XS.icmpYes X0.here hx rfl (pc0 := 3) (pc' := 14) rfl (hb hby own_d_jdk_65_method_123_3) rfl (feq (by decide : ¬ ((1 : Int32) = (4 : Int32)))).2 (by decide) (by decide) k)
  show own_Goes p.tables e below P (s₁.setTop (mkF m 14 #[.val (.ref b), .val (.int (1 : Int32)), .unset] []))
  refine own_Goes.st ?_ (fun _ k => XS.iloadN X0.here hx rfl (hb hby own_d_jdk_65_method_123_14) rfl k)
  show own_Goes p.tables e below P (s₁.setTop (mkF m 15 #[.val (.ref b), .val (.int (1 : Int32)), .unset] [(.int (1 : Int32))]))
  obtain ⟨T2, h2, k2, X2, e2, E2, A2, J2, st2⟩ := newPE X0 hx hZ (hw _ (List.mem_of_getElem? (i := 11) rfl)) e0 (g := (mkF m 15 #[.val (.ref b), .val (.int (1 : Int32)), .unset] [(.int (1 : Int32))])) rfl (hb hby own_d_jdk_65_method_123_15) rfl (by decide) (cap := 1) (by decide) (by decide) (by decide) (by decide) (ad := "[I") rfl
  obtain ⟨b2, g2⟩ : ∃ z, z = h0.size := ⟨_, rfl⟩
  rw [← g2] at A2 J2 st2
  have ne3 : b ≠ b2 := Nat.ne_of_lt (Nat.lt_of_lt_of_eq pr0.lt g2.symm)
  have ge_b2 : n0 ≤ b2 := Nat.le_trans Z0 (Nat.le_of_eq g2.symm)
  have sz_b2 : h0.size ≤ b2 := Nat.le_trans K0.1 (Nat.le_of_eq g2.symm)
  refine own_Goes.st ?_ st2
  have Z4 : n0 ≤ h2.size := Nat.le_trans Z0 E2.1
  have K5 := K0.ext E2
  have V6 : Arv Z h2 b2 k2 .int (1 : Int32) [(.int (0 : Int32))] (.int 0) := (Arv.new A2 (by decide)).pad (pad_rep [] _ 1)
  show own_Goes p.tables e below P (T2.setTop (mkF m 17 #[.val (.ref b), .val (.int (1 : Int32)), .unset] [(.ref b2)]))
  refine own_Goes.st ?_ (fun _ k => XS.astoreN X2.here hx rfl (hb hby own_d_jdk_65_method_123_17) rfl rfl (l' := #[.val (.ref b), .val (.int (1 : Int32)), .val (.ref b2)]) rfl k)
  show own_Goes p.tables e below P (T2.setTop (mkF m 18 #[.val (.ref b), .val (.int (1 : Int32)), .val (.ref b2)] []))
  refine own_Goes.st ?_ (fun _ k => XS.aloadN X2.here hx rfl (hb hby own_d_jdk_65_method_123_18) rfl rfl k)
  show own_Goes p.tables e below P (T2.setTop (mkF m 19 #[.val (.ref b), .val (.int (1 : Int32)), .val (.ref b2)] [(.ref b)]))
  refine own_Goes.st ?_ (fun _ k => XS.iconst X2.here hx rfl (hb hby own_d_jdk_65_method_123_19) k)
  show own_Goes p.tables e below P (T2.setTop (mkF m 20 #[.val (.ref b), .val (.int (1 : Int32)), .val (.ref b2)] [(.int (0 : Int32)), (.ref b)]))
  refine own_Goes.st ?_ (fun _ k => XS.aloadN X2.here hx rfl (hb hby own_d_jdk_65_method_123_20) rfl rfl k)
  show own_Goes p.tables e below P (T2.setTop (mkF m 21 #[.val (.ref b), .val (.int (1 : Int32)), .val (.ref b2)] [(.ref b2), (.int (0 : Int32)), (.ref b)]))
  refine own_Goes.st ?_ (fun _ k => XS.iconst X2.here hx rfl (hb hby own_d_jdk_65_method_123_21) k)
  show own_Goes p.tables e below P (T2.setTop (mkF m 22 #[.val (.ref b), .val (.int (1 : Int32)), .val (.ref b2)] [(.int (0 : Int32)), (.ref b2), (.int (0 : Int32)), (.ref b)]))
  refine own_Goes.st ?_ (fun _ k => XS.aloadN X2.here hx rfl (hb hby own_d_jdk_65_method_123_22) rfl rfl k)
  show own_Goes p.tables e below P (T2.setTop (mkF m 23 #[.val (.ref b), .val (.int (1 : Int32)), .val (.ref b2)] [(.ref b), (.int (0 : Int32)), (.ref b2), (.int (0 : Int32)), (.ref b)]))
  have F7 : Arv Z h2 b k .int (4 : Int32) [(.int x0), (.int (0 : Int32)), (.int (0 : Int32)), (.int (0 : Int32))] (.int 0) := (pr0.ext E2)
  have Vc8 := F7
  obtain ⟨cl8, Ar8, qc8, S8, Nn8, Hs8, Gs8⟩ := Vc8
  refine own_Goes.st ?_ (X2.arraylength hx (by rw [e2]; exact Ar8.1) (State.isArrayOf_alike hZ.alike Ar8.2.1) (g := (mkF m 23 #[.val (.ref b), .val (.int (1 : Int32)), .val (.ref b2)] [(.ref b), (.int (0 : Int32)), (.ref b2), (.int (0 : Int32)), (.ref b)])) rfl rfl (hb hby own_d_jdk_65_method_123_23))
  rw [len_of S8 Nn8]
  show own_Goes p.tables e below P (T2.setTop (mkF m 24 #[.val (.ref b), .val (.int (1 : Int32)), .val (.ref b2)] [(.int (4 : Int32)), (.int (0 : Int32)), (.ref b2), (.int (0 : Int32)), (.ref b)]))
  refine own_Goes.st ?_ (fun _ k => XS.iloadN X2.here hx rfl (hb hby own_d_jdk_65_method_123_24) rfl k)
  show own_Goes p.tables e below P (T2.setTop (mkF m 25 #[.val (.ref b), .val (.int (1 : Int32)), .val (.ref b2)] [(.int (1 : Int32)), (.int (4 : Int32)), (.int (0 : Int32)), (.ref b2), (.int (0 : Int32)), (.ref b)]))
  obtain ⟨_, _, ⟨T9, L9, k9, n9⟩, -, X9, ⟨Lc9, hQ9, l9, y9, z9⟩, st9⟩ := Jvm.LawKit.callS X2 hx (y := (⟨"java/lang/Math", "min", "(II)I"⟩ : MethodName)) hown (mvT hZ (hw _ (List.mem_of_getElem? (i := 30) rfl))) (mvT hZ (hw _ (List.mem_of_getElem? (i := 31) rfl))) (mvT hZ (hw _ (List.mem_of_getElem? (i := 32) rfl))) (mvT hZ (hw _ (List.mem_of_getElem? (i := 33) rfl))) (by decide) (backOf (W := 4) (rm_imin l Z a0 hw [] (4 : Int32) (1 : Int32) h2 n0 Z4) hZ (hw _ (List.mem_of_getElem? (i := 33) rfl)) (hw _ (List.mem_of_getElem? (i := 32) rfl)) (by decide) (by decide)) (g := (mkF m 25 #[.val (.ref b), .val (.int (1 : Int32)), .val (.ref b2)] [(.int (1 : Int32)), (.int (4 : Int32)), (.int (0 : Int32)), (.ref b2), (.int (0 : Int32)), (.ref b)])) rfl (by rw [hml]; rfl) (argsL := [(.int (4 : Int32)), (.int (1 : Int32))]) (rest := [(.int (0 : Int32)), (.ref b2), (.int (0 : Int32)), (.ref b)]) (lenOf own_pd__28_II_29_I rfl) rfl (by show 2 * 0 + _ ≤ _; exact Nat.le_of_eq rfl) (hb hby own_d_jdk_65_method_123_25) (fun _ _ => ⟨rfl, e2, (by decide : 1 + 0 ≤ _), (by decide : 1 + 0 ≤ _)⟩)
  dsimp only [Pt.U, Pt.locs, Pt.cells, Pt.slots] at X9 l9 y9 z9 st9 hQ9
  rw [l9, y9, z9] at X9
  obtain ⟨rfl, Nq9, e9⟩ := hQ9
  have N9 := Fr.app N0 Nq9
  refine own_Goes.st ?_ st9
  show own_Goes p.tables e below P (T9.setTop (mkF m 28 #[.val (.ref b), .val (.int (1 : Int32)), .val (.ref b2)] [(.int (own_imin (4 : Int32) (1 : Int32))), (.int (0 : Int32)), (.ref b2), (.int (0 : Int32)), (.ref b)]))
  rw [(rfl : own_imin (4 : Int32) (1 : Int32) = (1 : Int32))]
  show own_Goes p.tables e below P (T9.setTop (mkF m 28 #[.val (.ref b), .val (.int (1 : Int32)), .val (.ref b2)] [(.int (1 : Int32)), (.int (0 : Int32)), (.ref b2), (.int (0 : Int32)), (.ref b)]))
  obtain ⟨T10, h10, L10, X10, e10, N10, K10, V10, st10⟩ := cpA X9 hx hZ hown (hw _ (List.mem_of_getElem? (i := 34) rfl)) (hw _ (List.mem_of_getElem? (i := 37) rfl)) (hw _ (List.mem_of_getElem? (i := 35) rfl)) (hw _ (List.mem_of_getElem? (i := 36) rfl)) e9 (sp := (0 : Int32)) (dp := (0 : Int32)) (nn := (1 : Int32)) (us := [(.int x0)]) F7 V6 (Or.inl ⟨rfl, rfl⟩) (by decide) (by decide) (by decide) (by decide) (by decide) rfl (by decide) N9 ge_b2 (g := (mkF m 28 #[.val (.ref b), .val (.int (1 : Int32)), .val (.ref b2)] [(.int (1 : Int32)), (.int (0 : Int32)), (.ref b2), (.int (0 : Int32)), (.ref b)])) rfl (by rw [hml]; rfl) rfl (hb hby own_d_jdk_65_method_123_28) (by decide) (W := 0) (by show 2 * 0 + _ ≤ _; exact Nat.le_of_eq rfl) (by decide)
  refine own_Goes.st ?_ st10
  have V11 : Arv Z h10 b2 k2 .int (1 : Int32) [(.int x0)] (.int 0) := V10
  have Z12 : n0 ≤ h10.size := Nat.le_trans Z4 K10.1
  have K13 := K5.trans K10 (allS (Or.inr sz_b2) all0)
  show own_Goes p.tables e below P (T10.setTop (mkF m 31 #[.val (.ref b), .val (.int (1 : Int32)), .val (.ref b2)] []))
  refine own_Goes.st ?_ (fun _ k => XS.aloadN X10.here hx rfl (hb hby own_d_jdk_65_method_123_31) rfl rfl k)
  show own_Goes p.tables e below P (T10.setTop (mkF m 32 #[.val (.ref b), .val (.int (1 : Int32)), .val (.ref b2)] [(.ref b2)]))
  obtain ⟨fs, hr, hrun, hended, hW, hsame⟩ := X10.leave (v := some (.ref b2)) (fun h => by rw [Bd.returns] at h; cases h)
  have F14 : Exa Z h10 b2 "[I" := (J2.keep K10)
  exact own_Goes.fin _ _ (retOut X10 hx (t := (.array .int)) Bd.returns rfl (Or.inr (Or.inr (Or.inr (Or.inr ⟨rfl, rfl, rfl⟩)))) (hb hby own_d_jdk_65_method_123_32) hr) (hPP _ _ ⟨hrun, hended, _, _, rfl, (by show Q_copy_1_4_1 Z b k x0 h0 n0 _ T10.heap _; rw [e10]; exact ⟨b2, k2, rfl, N10, K13, sz_b2, V11, F14⟩), ⟨_, rfl⟩, hW, hsame.mono (by decide) (by decide)⟩)
theorem own_ef_copy_2_4_2 (m : MethodId) (x0 : Addr) : entryFrame m #[(.ref x0), (.int (2 : Int32))] 3 = mkF m 0 #[.val (.ref x0), .val (.int (2 : Int32)), .unset] [] := by first | (simp [entryFrame, mkF, argsToLocals, Value.category]; done) | rfl
def Q_copy_2_4_2 (Z : State) (b : Addr) (k : ClassId) (x0 : Int32) (x1 : Int32) (h0 : Heap) (n0 : Nat) (rv_ : Option Value) (h_ : Heap) (L_ : List Loc) : Prop := ∃ (r : Addr) (q : ClassId), rv_ = some (.ref r) ∧ Fr n0 L_ ∧ Keep h0 h_ [] ∧ (h0.size ≤ r) ∧ (Arv Z h_ r q .int (2 : Int32) [(.int x0), (.int x1)] (.int 0)) ∧ (Exa Z h_ r "[I")
set_option maxRecDepth 65536 in
set_option maxHeartbeats 40000000 in
theorem rm_copy_2_4_2 (l : Launch) (Z : State) (a0 : Array Value) (hw : ∀ d ∈ tables_1, d.before a0 Z = true) (ws : List Jvm.Cond) (b : Addr) (k : ClassId) (x0 : Int32) (x1 : Int32) (h0 : Heap) (n0 : Nat) (Z0 : n0 ≤ h0.size) (pr0 : Arv Z h0 b k .int (4 : Int32) [(.int x0), (.int x1), (.int (0 : Int32)), (.int (0 : Int32))] (.int 0)) (pr1 : Exa Z h0 b "[I") :
    MetFree l (⟨"java/util/Arrays", "copyOf", "([II)[I"⟩ : MethodName) (head1 (Jvm.Cond.code (⟨"java/util/Arrays", "copyOf", "([II)[I"⟩ : MethodName) jdk_65_method_123_code 3 (some (.array .int)) :: ws) ({ frames := 1, cells := 1, slots := 2, locals := 18 } : Room)) (fun as_ U => as_ = #[(.ref b), (.int (2 : Int32))] ∧ Z.Warmed39 U.vm ∧ U.heap = h0) (fun _ _ _ _ _ => True) (fun _ U o U' => ∃ rv_ L_, o = .returned rv_ ∧ Q_copy_2_4_2 Z b k x0 x1 h0 n0 rv_ U'.heap L_ ∧ FrameEnd U o U' L_ ({ frames := 1, cells := 1, slots := 2, locals := 18 } : Room).cells ({ frames := 1, cells := 1, slots := 2, locals := 18 } : Room).slots) := by
  refine MetFree.of_bodySF (plainFor_of_name own_pn_java_util_Arrays) hisR ?_
  intro p e s m args below meth c s₁ Bd hml0 hP hK
  obtain ⟨rfl, hZ, hh⟩ := hP
  have hx := Bd.exec
  have hby := Bd.bytes
  have hml : c.maxLocals = 3 := hml0
  have hown : s.vm.findClass "java/util/Arrays" = some m.cls := findClass_of_methodNamed Bd.named
  have hnm := (name_of_methodNamed Bd.named Bd.method).1
  have X0 : Stand p l e ({ frames := 1, cells := 1, slots := 2, locals := 18 } : Room) s m #[(.ref b), (.int (2 : Int32))] below meth c s₁ [] 0 0 := Stand.of_body Bd
  have e0 : s₁.heap = h0 := by rw [← hh, Bd.state]; rfl
  have N0 := Fr.nil n0
  refine own_Goes.of ?_
  refine own_Goes.nm (fun P hPP => ?_)
  refine own_Goes.st ?_ (fun _ k => castTop (own_ef_copy_2_4_2 m b) k)
  have K0 : Keep h0 h0 [] := Keep.refl _ _
  show own_Goes p.tables e below P (s₁.setTop (mkF m 0 #[.val (.ref b), .val (.int (2 : Int32)), .unset] []))
  refine own_Goes.st ?_ (fun _ k => XS.iloadN X0.here hx rfl (hb hby own_d_jdk_65_method_123_0) rfl k)
  show own_Goes p.tables e below P (s₁.setTop (mkF m 1 #[.val (.ref b), .val (.int (2 : Int32)), .unset] [(.int (2 : Int32))]))
  refine own_Goes.st ?_ (fun _ k => XS.aloadN X0.here hx rfl (hb hby own_d_jdk_65_method_123_1) rfl rfl k)
  show own_Goes p.tables e below P (s₁.setTop (mkF m 2 #[.val (.ref b), .val (.int (2 : Int32)), .unset] [(.ref b), (.int (2 : Int32))]))
  have Vc1 := pr0
  obtain ⟨cl1, Ar1, qc1, S1, Nn1, Hs1, Gs1⟩ := Vc1
  refine own_Goes.st ?_ (X0.arraylength hx (by rw [e0]; exact Ar1.1) (State.isArrayOf_alike hZ.alike Ar1.2.1) (g := (mkF m 2 #[.val (.ref b), .val (.int (2 : Int32)), .unset] [(.ref b), (.int (2 : Int32))])) rfl rfl (hb hby own_d_jdk_65_method_123_2))
  rw [len_of S1 Nn1]
  show own_Goes p.tables e below P (s₁.setTop (mkF m 3 #[.val (.ref b), .val (.int (2 : Int32)), .unset] [(.int (4 : Int32)), (.int (2 : Int32))]))
  refine own_Goes.st ?_ (fun _ k => XS.icmpYes X0.here hx rfl (pc0 := 3) (pc' := 14) rfl (hb hby own_d_jdk_65_method_123_3) rfl (feq (by decide : ¬ ((2 : Int32) = (4 : Int32)))).2 (by decide) (by decide) k)
  show own_Goes p.tables e below P (s₁.setTop (mkF m 14 #[.val (.ref b), .val (.int (2 : Int32)), .unset] []))
  refine own_Goes.st ?_ (fun _ k => XS.iloadN X0.here hx rfl (hb hby own_d_jdk_65_method_123_14) rfl k)
  show own_Goes p.tables e below P (s₁.setTop (mkF m 15 #[.val (.ref b), .val (.int (2 : Int32)), .unset] [(.int (2 : Int32))]))
  obtain ⟨T2, h2, k2, X2, e2, E2, A2, J2, st2⟩ := newPE X0 hx hZ (hw _ (List.mem_of_getElem? (i := 11) rfl)) e0 (g := (mkF m 15 #[.val (.ref b), .val (.int (2 : Int32)), .unset] [(.int (2 : Int32))])) rfl (hb hby own_d_jdk_65_method_123_15) rfl (by decide) (cap := 2) (by decide) (by decide) (by decide) (by decide) (ad := "[I") rfl
  obtain ⟨b2, g2⟩ : ∃ z, z = h0.size := ⟨_, rfl⟩
  rw [← g2] at A2 J2 st2
  have ne3 : b ≠ b2 := Nat.ne_of_lt (Nat.lt_of_lt_of_eq pr0.lt g2.symm)
  have ge_b2 : n0 ≤ b2 := Nat.le_trans Z0 (Nat.le_of_eq g2.symm)
  have sz_b2 : h0.size ≤ b2 := Nat.le_trans K0.1 (Nat.le_of_eq g2.symm)
  refine own_Goes.st ?_ st2
  have Z4 : n0 ≤ h2.size := Nat.le_trans Z0 E2.1
  have K5 := K0.ext E2
  have V6 : Arv Z h2 b2 k2 .int (2 : Int32) [(.int (0 : Int32)), (.int (0 : Int32))] (.int 0) := (Arv.new A2 (by decide)).pad (pad_rep [] _ 2)
  show own_Goes p.tables e below P (T2.setTop (mkF m 17 #[.val (.ref b), .val (.int (2 : Int32)), .unset] [(.ref b2)]))
  refine own_Goes.st ?_ (fun _ k => XS.astoreN X2.here hx rfl (hb hby own_d_jdk_65_method_123_17) rfl rfl (l' := #[.val (.ref b), .val (.int (2 : Int32)), .val (.ref b2)]) rfl k)
  show own_Goes p.tables e below P (T2.setTop (mkF m 18 #[.val (.ref b), .val (.int (2 : Int32)), .val (.ref b2)] []))
  refine own_Goes.st ?_ (fun _ k => XS.aloadN X2.here hx rfl (hb hby own_d_jdk_65_method_123_18) rfl rfl k)
  show own_Goes p.tables e below P (T2.setTop (mkF m 19 #[.val (.ref b), .val (.int (2 : Int32)), .val (.ref b2)] [(.ref b)]))
  refine own_Goes.st ?_ (fun _ k => XS.iconst X2.here hx rfl (hb hby own_d_jdk_65_method_123_19) k)
  show own_Goes p.tables e below P (T2.setTop (mkF m 20 #[.val (.ref b), .val (.int (2 : Int32)), .val (.ref b2)] [(.int (0 : Int32)), (.ref b)]))
  refine own_Goes.st ?_ (fun _ k => XS.aloadN X2.here hx rfl (hb hby own_d_jdk_65_method_123_20) rfl rfl k)
  show own_Goes p.tables e below P (T2.setTop (mkF m 21 #[.val (.ref b), .val (.int (2 : Int32)), .val (.ref b2)] [(.ref b2), (.int (0 : Int32)), (.ref b)]))
  refine own_Goes.st ?_ (fun _ k => XS.iconst X2.here hx rfl (hb hby own_d_jdk_65_method_123_21) k)
  show own_Goes p.tables e below P (T2.setTop (mkF m 22 #[.val (.ref b), .val (.int (2 : Int32)), .val (.ref b2)] [(.int (0 : Int32)), (.ref b2), (.int (0 : Int32)), (.ref b)]))
  refine own_Goes.st ?_ (fun _ k => XS.aloadN X2.here hx rfl (hb hby own_d_jdk_65_method_123_22) rfl rfl k)
  show own_Goes p.tables e below P (T2.setTop (mkF m 23 #[.val (.ref b), .val (.int (2 : Int32)), .val (.ref b2)] [(.ref b), (.int (0 : Int32)), (.ref b2), (.int (0 : Int32)), (.ref b)]))
  have F7 : Arv Z h2 b k .int (4 : Int32) [(.int x0), (.int x1), (.int (0 : Int32)), (.int (0 : Int32))] (.int 0) := (pr0.ext E2)
  have Vc8 := F7
  obtain ⟨cl8, Ar8, qc8, S8, Nn8, Hs8, Gs8⟩ := Vc8
  refine own_Goes.st ?_ (X2.arraylength hx (by rw [e2]; exact Ar8.1) (State.isArrayOf_alike hZ.alike Ar8.2.1) (g := (mkF m 23 #[.val (.ref b), .val (.int (2 : Int32)), .val (.ref b2)] [(.ref b), (.int (0 : Int32)), (.ref b2), (.int (0 : Int32)), (.ref b)])) rfl rfl (hb hby own_d_jdk_65_method_123_23))
  rw [len_of S8 Nn8]
  show own_Goes p.tables e below P (T2.setTop (mkF m 24 #[.val (.ref b), .val (.int (2 : Int32)), .val (.ref b2)] [(.int (4 : Int32)), (.int (0 : Int32)), (.ref b2), (.int (0 : Int32)), (.ref b)]))
  refine own_Goes.st ?_ (fun _ k => XS.iloadN X2.here hx rfl (hb hby own_d_jdk_65_method_123_24) rfl k)
  show own_Goes p.tables e below P (T2.setTop (mkF m 25 #[.val (.ref b), .val (.int (2 : Int32)), .val (.ref b2)] [(.int (2 : Int32)), (.int (4 : Int32)), (.int (0 : Int32)), (.ref b2), (.int (0 : Int32)), (.ref b)]))
  obtain ⟨_, _, ⟨T9, L9, k9, n9⟩, -, X9, ⟨Lc9, hQ9, l9, y9, z9⟩, st9⟩ := Jvm.LawKit.callS X2 hx (y := (⟨"java/lang/Math", "min", "(II)I"⟩ : MethodName)) hown (mvT hZ (hw _ (List.mem_of_getElem? (i := 30) rfl))) (mvT hZ (hw _ (List.mem_of_getElem? (i := 31) rfl))) (mvT hZ (hw _ (List.mem_of_getElem? (i := 32) rfl))) (mvT hZ (hw _ (List.mem_of_getElem? (i := 33) rfl))) (by decide) (backOf (W := 4) (rm_imin l Z a0 hw [] (4 : Int32) (2 : Int32) h2 n0 Z4) hZ (hw _ (List.mem_of_getElem? (i := 33) rfl)) (hw _ (List.mem_of_getElem? (i := 32) rfl)) (by decide) (by decide)) (g := (mkF m 25 #[.val (.ref b), .val (.int (2 : Int32)), .val (.ref b2)] [(.int (2 : Int32)), (.int (4 : Int32)), (.int (0 : Int32)), (.ref b2), (.int (0 : Int32)), (.ref b)])) rfl (by rw [hml]; rfl) (argsL := [(.int (4 : Int32)), (.int (2 : Int32))]) (rest := [(.int (0 : Int32)), (.ref b2), (.int (0 : Int32)), (.ref b)]) (lenOf own_pd__28_II_29_I rfl) rfl (by show 2 * 0 + _ ≤ _; exact Nat.le_of_eq rfl) (hb hby own_d_jdk_65_method_123_25) (fun _ _ => ⟨rfl, e2, (by decide : 1 + 0 ≤ _), (by decide : 2 + 0 ≤ _)⟩)
  dsimp only [Pt.U, Pt.locs, Pt.cells, Pt.slots] at X9 l9 y9 z9 st9 hQ9
  rw [l9, y9, z9] at X9
  obtain ⟨rfl, Nq9, e9⟩ := hQ9
  have N9 := Fr.app N0 Nq9
  refine own_Goes.st ?_ st9
  show own_Goes p.tables e below P (T9.setTop (mkF m 28 #[.val (.ref b), .val (.int (2 : Int32)), .val (.ref b2)] [(.int (own_imin (4 : Int32) (2 : Int32))), (.int (0 : Int32)), (.ref b2), (.int (0 : Int32)), (.ref b)]))
  rw [(rfl : own_imin (4 : Int32) (2 : Int32) = (2 : Int32))]
  show own_Goes p.tables e below P (T9.setTop (mkF m 28 #[.val (.ref b), .val (.int (2 : Int32)), .val (.ref b2)] [(.int (2 : Int32)), (.int (0 : Int32)), (.ref b2), (.int (0 : Int32)), (.ref b)]))
  obtain ⟨T10, h10, L10, X10, e10, N10, K10, V10, st10⟩ := cpA X9 hx hZ hown (hw _ (List.mem_of_getElem? (i := 34) rfl)) (hw _ (List.mem_of_getElem? (i := 37) rfl)) (hw _ (List.mem_of_getElem? (i := 35) rfl)) (hw _ (List.mem_of_getElem? (i := 36) rfl)) e9 (sp := (0 : Int32)) (dp := (0 : Int32)) (nn := (2 : Int32)) (us := [(.int x0), (.int x1)]) F7 V6 (Or.inl ⟨rfl, rfl⟩) (by decide) (by decide) (by decide) (by decide) (by decide) rfl (by decide) N9 ge_b2 (g := (mkF m 28 #[.val (.ref b), .val (.int (2 : Int32)), .val (.ref b2)] [(.int (2 : Int32)), (.int (0 : Int32)), (.ref b2), (.int (0 : Int32)), (.ref b)])) rfl (by rw [hml]; rfl) rfl (hb hby own_d_jdk_65_method_123_28) (by decide) (W := 0) (by show 2 * 0 + _ ≤ _; exact Nat.le_of_eq rfl) (by decide)
  refine own_Goes.st ?_ st10
  have V11 : Arv Z h10 b2 k2 .int (2 : Int32) [(.int x0), (.int x1)] (.int 0) := V10
  have Z12 : n0 ≤ h10.size := Nat.le_trans Z4 K10.1
  have K13 := K5.trans K10 (allS (Or.inr sz_b2) all0)
  show own_Goes p.tables e below P (T10.setTop (mkF m 31 #[.val (.ref b), .val (.int (2 : Int32)), .val (.ref b2)] []))
  refine own_Goes.st ?_ (fun _ k => XS.aloadN X10.here hx rfl (hb hby own_d_jdk_65_method_123_31) rfl rfl k)
  show own_Goes p.tables e below P (T10.setTop (mkF m 32 #[.val (.ref b), .val (.int (2 : Int32)), .val (.ref b2)] [(.ref b2)]))
  obtain ⟨fs, hr, hrun, hended, hW, hsame⟩ := X10.leave (v := some (.ref b2)) (fun h => by rw [Bd.returns] at h; cases h)
  have F14 : Exa Z h10 b2 "[I" := (J2.keep K10)
  exact own_Goes.fin _ _ (retOut X10 hx (t := (.array .int)) Bd.returns rfl (Or.inr (Or.inr (Or.inr (Or.inr ⟨rfl, rfl, rfl⟩)))) (hb hby own_d_jdk_65_method_123_32) hr) (hPP _ _ ⟨hrun, hended, _, _, rfl, (by show Q_copy_2_4_2 Z b k x0 x1 h0 n0 _ T10.heap _; rw [e10]; exact ⟨b2, k2, rfl, N10, K13, sz_b2, V11, F14⟩), ⟨_, rfl⟩, hW, hsame.mono (by decide) (by decide)⟩)
theorem own_ef_copy_3_4_3 (m : MethodId) (x0 : Addr) : entryFrame m #[(.ref x0), (.int (3 : Int32))] 3 = mkF m 0 #[.val (.ref x0), .val (.int (3 : Int32)), .unset] [] := by first | (simp [entryFrame, mkF, argsToLocals, Value.category]; done) | rfl
def Q_copy_3_4_3 (Z : State) (b : Addr) (k : ClassId) (x0 : Int32) (x1 : Int32) (x2 : Int32) (h0 : Heap) (n0 : Nat) (rv_ : Option Value) (h_ : Heap) (L_ : List Loc) : Prop := ∃ (r : Addr) (q : ClassId), rv_ = some (.ref r) ∧ Fr n0 L_ ∧ Keep h0 h_ [] ∧ (h0.size ≤ r) ∧ (Arv Z h_ r q .int (3 : Int32) [(.int x0), (.int x1), (.int x2)] (.int 0)) ∧ (Exa Z h_ r "[I")
set_option maxRecDepth 65536 in
set_option maxHeartbeats 40000000 in
theorem rm_copy_3_4_3 (l : Launch) (Z : State) (a0 : Array Value) (hw : ∀ d ∈ tables_1, d.before a0 Z = true) (ws : List Jvm.Cond) (b : Addr) (k : ClassId) (x0 : Int32) (x1 : Int32) (x2 : Int32) (h0 : Heap) (n0 : Nat) (Z0 : n0 ≤ h0.size) (pr0 : Arv Z h0 b k .int (4 : Int32) [(.int x0), (.int x1), (.int x2), (.int (0 : Int32))] (.int 0)) (pr1 : Exa Z h0 b "[I") :
    MetFree l (⟨"java/util/Arrays", "copyOf", "([II)[I"⟩ : MethodName) (head1 (Jvm.Cond.code (⟨"java/util/Arrays", "copyOf", "([II)[I"⟩ : MethodName) jdk_65_method_123_code 3 (some (.array .int)) :: ws) ({ frames := 1, cells := 1, slots := 3, locals := 18 } : Room)) (fun as_ U => as_ = #[(.ref b), (.int (3 : Int32))] ∧ Z.Warmed39 U.vm ∧ U.heap = h0) (fun _ _ _ _ _ => True) (fun _ U o U' => ∃ rv_ L_, o = .returned rv_ ∧ Q_copy_3_4_3 Z b k x0 x1 x2 h0 n0 rv_ U'.heap L_ ∧ FrameEnd U o U' L_ ({ frames := 1, cells := 1, slots := 3, locals := 18 } : Room).cells ({ frames := 1, cells := 1, slots := 3, locals := 18 } : Room).slots) := by
  refine MetFree.of_bodySF (plainFor_of_name own_pn_java_util_Arrays) hisR ?_
  intro p e s m args below meth c s₁ Bd hml0 hP hK
  obtain ⟨rfl, hZ, hh⟩ := hP
  have hx := Bd.exec
  have hby := Bd.bytes
  have hml : c.maxLocals = 3 := hml0
  have hown : s.vm.findClass "java/util/Arrays" = some m.cls := findClass_of_methodNamed Bd.named
  have hnm := (name_of_methodNamed Bd.named Bd.method).1
  have X0 : Stand p l e ({ frames := 1, cells := 1, slots := 3, locals := 18 } : Room) s m #[(.ref b), (.int (3 : Int32))] below meth c s₁ [] 0 0 := Stand.of_body Bd
  have e0 : s₁.heap = h0 := by rw [← hh, Bd.state]; rfl
  have N0 := Fr.nil n0
  refine own_Goes.of ?_
  refine own_Goes.nm (fun P hPP => ?_)
  refine own_Goes.st ?_ (fun _ k => castTop (own_ef_copy_3_4_3 m b) k)
  have K0 : Keep h0 h0 [] := Keep.refl _ _
  show own_Goes p.tables e below P (s₁.setTop (mkF m 0 #[.val (.ref b), .val (.int (3 : Int32)), .unset] []))
  refine own_Goes.st ?_ (fun _ k => XS.iloadN X0.here hx rfl (hb hby own_d_jdk_65_method_123_0) rfl k)
  show own_Goes p.tables e below P (s₁.setTop (mkF m 1 #[.val (.ref b), .val (.int (3 : Int32)), .unset] [(.int (3 : Int32))]))
  refine own_Goes.st ?_ (fun _ k => XS.aloadN X0.here hx rfl (hb hby own_d_jdk_65_method_123_1) rfl rfl k)
  show own_Goes p.tables e below P (s₁.setTop (mkF m 2 #[.val (.ref b), .val (.int (3 : Int32)), .unset] [(.ref b), (.int (3 : Int32))]))
  have Vc1 := pr0
  obtain ⟨cl1, Ar1, qc1, S1, Nn1, Hs1, Gs1⟩ := Vc1
  refine own_Goes.st ?_ (X0.arraylength hx (by rw [e0]; exact Ar1.1) (State.isArrayOf_alike hZ.alike Ar1.2.1) (g := (mkF m 2 #[.val (.ref b), .val (.int (3 : Int32)), .unset] [(.ref b), (.int (3 : Int32))])) rfl rfl (hb hby own_d_jdk_65_method_123_2))
  rw [len_of S1 Nn1]
  show own_Goes p.tables e below P (s₁.setTop (mkF m 3 #[.val (.ref b), .val (.int (3 : Int32)), .unset] [(.int (4 : Int32)), (.int (3 : Int32))]))
  refine own_Goes.st ?_ (fun _ k => XS.icmpYes X0.here hx rfl (pc0 := 3) (pc' := 14) rfl (hb hby own_d_jdk_65_method_123_3) rfl (feq (by decide : ¬ ((3 : Int32) = (4 : Int32)))).2 (by decide) (by decide) k)
  show own_Goes p.tables e below P (s₁.setTop (mkF m 14 #[.val (.ref b), .val (.int (3 : Int32)), .unset] []))
  refine own_Goes.st ?_ (fun _ k => XS.iloadN X0.here hx rfl (hb hby own_d_jdk_65_method_123_14) rfl k)
  show own_Goes p.tables e below P (s₁.setTop (mkF m 15 #[.val (.ref b), .val (.int (3 : Int32)), .unset] [(.int (3 : Int32))]))
  obtain ⟨T2, h2, k2, X2, e2, E2, A2, J2, st2⟩ := newPE X0 hx hZ (hw _ (List.mem_of_getElem? (i := 11) rfl)) e0 (g := (mkF m 15 #[.val (.ref b), .val (.int (3 : Int32)), .unset] [(.int (3 : Int32))])) rfl (hb hby own_d_jdk_65_method_123_15) rfl (by decide) (cap := 3) (by decide) (by decide) (by decide) (by decide) (ad := "[I") rfl
  obtain ⟨b2, g2⟩ : ∃ z, z = h0.size := ⟨_, rfl⟩
  rw [← g2] at A2 J2 st2
  have ne3 : b ≠ b2 := Nat.ne_of_lt (Nat.lt_of_lt_of_eq pr0.lt g2.symm)
  have ge_b2 : n0 ≤ b2 := Nat.le_trans Z0 (Nat.le_of_eq g2.symm)
  have sz_b2 : h0.size ≤ b2 := Nat.le_trans K0.1 (Nat.le_of_eq g2.symm)
  refine own_Goes.st ?_ st2
  have Z4 : n0 ≤ h2.size := Nat.le_trans Z0 E2.1
  have K5 := K0.ext E2
  have V6 : Arv Z h2 b2 k2 .int (3 : Int32) [(.int (0 : Int32)), (.int (0 : Int32)), (.int (0 : Int32))] (.int 0) := (Arv.new A2 (by decide)).pad (pad_rep [] _ 3)
  show own_Goes p.tables e below P (T2.setTop (mkF m 17 #[.val (.ref b), .val (.int (3 : Int32)), .unset] [(.ref b2)]))
  refine own_Goes.st ?_ (fun _ k => XS.astoreN X2.here hx rfl (hb hby own_d_jdk_65_method_123_17) rfl rfl (l' := #[.val (.ref b), .val (.int (3 : Int32)), .val (.ref b2)]) rfl k)
  show own_Goes p.tables e below P (T2.setTop (mkF m 18 #[.val (.ref b), .val (.int (3 : Int32)), .val (.ref b2)] []))
  refine own_Goes.st ?_ (fun _ k => XS.aloadN X2.here hx rfl (hb hby own_d_jdk_65_method_123_18) rfl rfl k)
  show own_Goes p.tables e below P (T2.setTop (mkF m 19 #[.val (.ref b), .val (.int (3 : Int32)), .val (.ref b2)] [(.ref b)]))
  refine own_Goes.st ?_ (fun _ k => XS.iconst X2.here hx rfl (hb hby own_d_jdk_65_method_123_19) k)
  show own_Goes p.tables e below P (T2.setTop (mkF m 20 #[.val (.ref b), .val (.int (3 : Int32)), .val (.ref b2)] [(.int (0 : Int32)), (.ref b)]))
  refine own_Goes.st ?_ (fun _ k => XS.aloadN X2.here hx rfl (hb hby own_d_jdk_65_method_123_20) rfl rfl k)
  show own_Goes p.tables e below P (T2.setTop (mkF m 21 #[.val (.ref b), .val (.int (3 : Int32)), .val (.ref b2)] [(.ref b2), (.int (0 : Int32)), (.ref b)]))
  refine own_Goes.st ?_ (fun _ k => XS.iconst X2.here hx rfl (hb hby own_d_jdk_65_method_123_21) k)
  show own_Goes p.tables e below P (T2.setTop (mkF m 22 #[.val (.ref b), .val (.int (3 : Int32)), .val (.ref b2)] [(.int (0 : Int32)), (.ref b2), (.int (0 : Int32)), (.ref b)]))
  refine own_Goes.st ?_ (fun _ k => XS.aloadN X2.here hx rfl (hb hby own_d_jdk_65_method_123_22) rfl rfl k)
  show own_Goes p.tables e below P (T2.setTop (mkF m 23 #[.val (.ref b), .val (.int (3 : Int32)), .val (.ref b2)] [(.ref b), (.int (0 : Int32)), (.ref b2), (.int (0 : Int32)), (.ref b)]))
  have F7 : Arv Z h2 b k .int (4 : Int32) [(.int x0), (.int x1), (.int x2), (.int (0 : Int32))] (.int 0) := (pr0.ext E2)
  have Vc8 := F7
  obtain ⟨cl8, Ar8, qc8, S8, Nn8, Hs8, Gs8⟩ := Vc8
  refine own_Goes.st ?_ (X2.arraylength hx (by rw [e2]; exact Ar8.1) (State.isArrayOf_alike hZ.alike Ar8.2.1) (g := (mkF m 23 #[.val (.ref b), .val (.int (3 : Int32)), .val (.ref b2)] [(.ref b), (.int (0 : Int32)), (.ref b2), (.int (0 : Int32)), (.ref b)])) rfl rfl (hb hby own_d_jdk_65_method_123_23))
  rw [len_of S8 Nn8]
  show own_Goes p.tables e below P (T2.setTop (mkF m 24 #[.val (.ref b), .val (.int (3 : Int32)), .val (.ref b2)] [(.int (4 : Int32)), (.int (0 : Int32)), (.ref b2), (.int (0 : Int32)), (.ref b)]))
  refine own_Goes.st ?_ (fun _ k => XS.iloadN X2.here hx rfl (hb hby own_d_jdk_65_method_123_24) rfl k)
  show own_Goes p.tables e below P (T2.setTop (mkF m 25 #[.val (.ref b), .val (.int (3 : Int32)), .val (.ref b2)] [(.int (3 : Int32)), (.int (4 : Int32)), (.int (0 : Int32)), (.ref b2), (.int (0 : Int32)), (.ref b)]))
  obtain ⟨_, _, ⟨T9, L9, k9, n9⟩, -, X9, ⟨Lc9, hQ9, l9, y9, z9⟩, st9⟩ := Jvm.LawKit.callS X2 hx (y := (⟨"java/lang/Math", "min", "(II)I"⟩ : MethodName)) hown (mvT hZ (hw _ (List.mem_of_getElem? (i := 30) rfl))) (mvT hZ (hw _ (List.mem_of_getElem? (i := 31) rfl))) (mvT hZ (hw _ (List.mem_of_getElem? (i := 32) rfl))) (mvT hZ (hw _ (List.mem_of_getElem? (i := 33) rfl))) (by decide) (backOf (W := 4) (rm_imin l Z a0 hw [] (4 : Int32) (3 : Int32) h2 n0 Z4) hZ (hw _ (List.mem_of_getElem? (i := 33) rfl)) (hw _ (List.mem_of_getElem? (i := 32) rfl)) (by decide) (by decide)) (g := (mkF m 25 #[.val (.ref b), .val (.int (3 : Int32)), .val (.ref b2)] [(.int (3 : Int32)), (.int (4 : Int32)), (.int (0 : Int32)), (.ref b2), (.int (0 : Int32)), (.ref b)])) rfl (by rw [hml]; rfl) (argsL := [(.int (4 : Int32)), (.int (3 : Int32))]) (rest := [(.int (0 : Int32)), (.ref b2), (.int (0 : Int32)), (.ref b)]) (lenOf own_pd__28_II_29_I rfl) rfl (by show 2 * 0 + _ ≤ _; exact Nat.le_of_eq rfl) (hb hby own_d_jdk_65_method_123_25) (fun _ _ => ⟨rfl, e2, (by decide : 1 + 0 ≤ _), (by decide : 3 + 0 ≤ _)⟩)
  dsimp only [Pt.U, Pt.locs, Pt.cells, Pt.slots] at X9 l9 y9 z9 st9 hQ9
  rw [l9, y9, z9] at X9
  obtain ⟨rfl, Nq9, e9⟩ := hQ9
  have N9 := Fr.app N0 Nq9
  refine own_Goes.st ?_ st9
  show own_Goes p.tables e below P (T9.setTop (mkF m 28 #[.val (.ref b), .val (.int (3 : Int32)), .val (.ref b2)] [(.int (own_imin (4 : Int32) (3 : Int32))), (.int (0 : Int32)), (.ref b2), (.int (0 : Int32)), (.ref b)]))
  rw [(rfl : own_imin (4 : Int32) (3 : Int32) = (3 : Int32))]
  show own_Goes p.tables e below P (T9.setTop (mkF m 28 #[.val (.ref b), .val (.int (3 : Int32)), .val (.ref b2)] [(.int (3 : Int32)), (.int (0 : Int32)), (.ref b2), (.int (0 : Int32)), (.ref b)]))
  obtain ⟨T10, h10, L10, X10, e10, N10, K10, V10, st10⟩ := cpA X9 hx hZ hown (hw _ (List.mem_of_getElem? (i := 34) rfl)) (hw _ (List.mem_of_getElem? (i := 37) rfl)) (hw _ (List.mem_of_getElem? (i := 35) rfl)) (hw _ (List.mem_of_getElem? (i := 36) rfl)) e9 (sp := (0 : Int32)) (dp := (0 : Int32)) (nn := (3 : Int32)) (us := [(.int x0), (.int x1), (.int x2)]) F7 V6 (Or.inl ⟨rfl, rfl⟩) (by decide) (by decide) (by decide) (by decide) (by decide) rfl (by decide) N9 ge_b2 (g := (mkF m 28 #[.val (.ref b), .val (.int (3 : Int32)), .val (.ref b2)] [(.int (3 : Int32)), (.int (0 : Int32)), (.ref b2), (.int (0 : Int32)), (.ref b)])) rfl (by rw [hml]; rfl) rfl (hb hby own_d_jdk_65_method_123_28) (by decide) (W := 0) (by show 2 * 0 + _ ≤ _; exact Nat.le_of_eq rfl) (by decide)
  refine own_Goes.st ?_ st10
  have V11 : Arv Z h10 b2 k2 .int (3 : Int32) [(.int x0), (.int x1), (.int x2)] (.int 0) := V10
  have Z12 : n0 ≤ h10.size := Nat.le_trans Z4 K10.1
  have K13 := K5.trans K10 (allS (Or.inr sz_b2) all0)
  show own_Goes p.tables e below P (T10.setTop (mkF m 31 #[.val (.ref b), .val (.int (3 : Int32)), .val (.ref b2)] []))
  refine own_Goes.st ?_ (fun _ k => XS.aloadN X10.here hx rfl (hb hby own_d_jdk_65_method_123_31) rfl rfl k)
  show own_Goes p.tables e below P (T10.setTop (mkF m 32 #[.val (.ref b), .val (.int (3 : Int32)), .val (.ref b2)] [(.ref b2)]))
  obtain ⟨fs, hr, hrun, hended, hW, hsame⟩ := X10.leave (v := some (.ref b2)) (fun h => by rw [Bd.returns] at h; cases h)
  have F14 : Exa Z h10 b2 "[I" := (J2.keep K10)
  exact own_Goes.fin _ _ (retOut X10 hx (t := (.array .int)) Bd.returns rfl (Or.inr (Or.inr (Or.inr (Or.inr ⟨rfl, rfl, rfl⟩)))) (hb hby own_d_jdk_65_method_123_32) hr) (hPP _ _ ⟨hrun, hended, _, _, rfl, (by show Q_copy_3_4_3 Z b k x0 x1 x2 h0 n0 _ T10.heap _; rw [e10]; exact ⟨b2, k2, rfl, N10, K13, sz_b2, V11, F14⟩), ⟨_, rfl⟩, hW, hsame.mono (by decide) (by decide)⟩)
theorem own_ef_copy_4_4_4 (m : MethodId) (x0 : Addr) : entryFrame m #[(.ref x0), (.int (4 : Int32))] 3 = mkF m 0 #[.val (.ref x0), .val (.int (4 : Int32)), .unset] [] := by first | (simp [entryFrame, mkF, argsToLocals, Value.category]; done) | rfl
theorem own_d_jdk_65_method_123_6 : decode jdk_65_method_123_code 6 = .ok (.aload_n 0, 1) := by decide +kernel
theorem own_d_jdk_65_method_123_7 : decode jdk_65_method_123_code 7 = .ok (.invokevirtual 316, 3) := by decide +kernel
theorem own_d_jdk_65_method_123_10 : decode jdk_65_method_123_code 10 = .ok (.checkcast 317, 3) := by decide +kernel
theorem own_d_jdk_65_method_123_13 : decode jdk_65_method_123_code 13 = .ok (.areturn, 1) := by decide +kernel
def Q_copy_4_4_4 (Z : State) (b : Addr) (k : ClassId) (x0 : Int32) (x1 : Int32) (x2 : Int32) (x3 : Int32) (h0 : Heap) (n0 : Nat) (rv_ : Option Value) (h_ : Heap) (L_ : List Loc) : Prop := ∃ (r : Addr) (q : ClassId), rv_ = some (.ref r) ∧ Fr n0 L_ ∧ Keep h0 h_ [] ∧ (h0.size ≤ r) ∧ (Arv Z h_ r q .int (4 : Int32) [(.int x0), (.int x1), (.int x2), (.int x3)] (.int 0)) ∧ (Exa Z h_ r "[I")
set_option maxRecDepth 65536 in
set_option maxHeartbeats 40000000 in
theorem rm_copy_4_4_4 (l : Launch) (Z : State) (a0 : Array Value) (hw : ∀ d ∈ tables_1, d.before a0 Z = true) (ws : List Jvm.Cond) (b : Addr) (k : ClassId) (x0 : Int32) (x1 : Int32) (x2 : Int32) (x3 : Int32) (h0 : Heap) (n0 : Nat) (Z0 : n0 ≤ h0.size) (pr0 : Arv Z h0 b k .int (4 : Int32) [(.int x0), (.int x1), (.int x2), (.int x3)] (.int 0)) (pr1 : Exa Z h0 b "[I") :
    MetFree l (⟨"java/util/Arrays", "copyOf", "([II)[I"⟩ : MethodName) (head1 (Jvm.Cond.code (⟨"java/util/Arrays", "copyOf", "([II)[I"⟩ : MethodName) jdk_65_method_123_code 3 (some (.array .int)) :: ws) ({ frames := 1, cells := 1, slots := 4, locals := 14 } : Room)) (fun as_ U => as_ = #[(.ref b), (.int (4 : Int32))] ∧ Z.Warmed39 U.vm ∧ U.heap = h0) (fun _ _ _ _ _ => True) (fun _ U o U' => ∃ rv_ L_, o = .returned rv_ ∧ Q_copy_4_4_4 Z b k x0 x1 x2 x3 h0 n0 rv_ U'.heap L_ ∧ FrameEnd U o U' L_ ({ frames := 1, cells := 1, slots := 4, locals := 14 } : Room).cells ({ frames := 1, cells := 1, slots := 4, locals := 14 } : Room).slots) := by
  refine MetFree.of_bodySF (plainFor_of_name own_pn_java_util_Arrays) hisR ?_
  intro p e s m args below meth c s₁ Bd hml0 hP hK
  obtain ⟨rfl, hZ, hh⟩ := hP
  have hx := Bd.exec
  have hby := Bd.bytes
  have hml : c.maxLocals = 3 := hml0
  have hown : s.vm.findClass "java/util/Arrays" = some m.cls := findClass_of_methodNamed Bd.named
  have hnm := (name_of_methodNamed Bd.named Bd.method).1
  have X0 : Stand p l e ({ frames := 1, cells := 1, slots := 4, locals := 14 } : Room) s m #[(.ref b), (.int (4 : Int32))] below meth c s₁ [] 0 0 := Stand.of_body Bd
  have e0 : s₁.heap = h0 := by rw [← hh, Bd.state]; rfl
  have N0 := Fr.nil n0
  refine own_Goes.of ?_
  refine own_Goes.nm (fun P hPP => ?_)
  refine own_Goes.st ?_ (fun _ k => castTop (own_ef_copy_4_4_4 m b) k)
  have K0 : Keep h0 h0 [] := Keep.refl _ _
  show own_Goes p.tables e below P (s₁.setTop (mkF m 0 #[.val (.ref b), .val (.int (4 : Int32)), .unset] []))
  refine own_Goes.st ?_ (fun _ k => XS.iloadN X0.here hx rfl (hb hby own_d_jdk_65_method_123_0) rfl k)
  show own_Goes p.tables e below P (s₁.setTop (mkF m 1 #[.val (.ref b), .val (.int (4 : Int32)), .unset] [(.int (4 : Int32))]))
  refine own_Goes.st ?_ (fun _ k => XS.aloadN X0.here hx rfl (hb hby own_d_jdk_65_method_123_1) rfl rfl k)
  show own_Goes p.tables e below P (s₁.setTop (mkF m 2 #[.val (.ref b), .val (.int (4 : Int32)), .unset] [(.ref b), (.int (4 : Int32))]))
  have Vc1 := pr0
  obtain ⟨cl1, Ar1, qc1, S1, Nn1, Hs1, Gs1⟩ := Vc1
  refine own_Goes.st ?_ (X0.arraylength hx (by rw [e0]; exact Ar1.1) (State.isArrayOf_alike hZ.alike Ar1.2.1) (g := (mkF m 2 #[.val (.ref b), .val (.int (4 : Int32)), .unset] [(.ref b), (.int (4 : Int32))])) rfl rfl (hb hby own_d_jdk_65_method_123_2))
  rw [len_of S1 Nn1]
  show own_Goes p.tables e below P (s₁.setTop (mkF m 3 #[.val (.ref b), .val (.int (4 : Int32)), .unset] [(.int (4 : Int32)), (.int (4 : Int32))]))
  refine own_Goes.st ?_ (fun _ k => XS.icmpNo X0.here hx rfl (hb hby own_d_jdk_65_method_123_3) rfl (teq (by decide : (4 : Int32) = (4 : Int32))).2 k)
  show own_Goes p.tables e below P (s₁.setTop (mkF m 6 #[.val (.ref b), .val (.int (4 : Int32)), .unset] []))
  refine own_Goes.st ?_ (fun _ k => XS.aloadN X0.here hx rfl (hb hby own_d_jdk_65_method_123_6) rfl rfl k)
  show own_Goes p.tables e below P (s₁.setTop (mkF m 7 #[.val (.ref b), .val (.int (4 : Int32)), .unset] [(.ref b)]))
  obtain ⟨T2, h2, X2, e2, E2, A2, J2, st2⟩ := cloneH X0 hx hZ hown (hw _ (List.mem_of_getElem? (i := 43) rfl)) (hw _ (List.mem_of_getElem? (i := 44) rfl)) (hw _ (List.mem_of_getElem? (i := 48) rfl)) (hw _ (List.mem_of_getElem? (i := 46) rfl)) (hw _ (List.mem_of_getElem? (i := 47) rfl)) (hw _ (List.mem_of_getElem? (i := 49) rfl)) e0 (Arv.arh pr0) pr1 (g := (mkF m 7 #[.val (.ref b), .val (.int (4 : Int32)), .unset] [(.ref b)])) rfl (by rw [hml]; rfl) rfl (hb hby own_d_jdk_65_method_123_7) (by decide) (W := 0) (cap := 4) (by show 2 * 0 + _ ≤ _; exact Nat.le_of_eq rfl) (by decide) (by decide) (by decide) (by decide)
  obtain ⟨b2, g2⟩ : ∃ z, z = h0.size := ⟨_, rfl⟩
  rw [← g2] at A2 J2 st2
  have ne3 : b ≠ b2 := Nat.ne_of_lt (Nat.lt_of_lt_of_eq pr0.lt g2.symm)
  have ge_b2 : n0 ≤ b2 := Nat.le_trans Z0 (Nat.le_of_eq g2.symm)
  have sz_b2 : h0.size ≤ b2 := Nat.le_trans K0.1 (Nat.le_of_eq g2.symm)
  refine own_Goes.st ?_ st2
  have Z4 : n0 ≤ h2.size := Nat.le_trans Z0 E2.1
  have K5 := K0.ext E2
  have V6 : Arv Z h2 b2 k .int (4 : Int32) [(.int x0), (.int x1), (.int x2), (.int x3)] (.int 0) := A2
  show own_Goes p.tables e below P (T2.setTop (mkF m 10 #[.val (.ref b), .val (.int (4 : Int32)), .unset] [(.ref b2)]))
  obtain ⟨T7, X7, e7, st7⟩ := castY X2 hx hZ hown (hw _ (List.mem_of_getElem? (i := 50) rfl)) e2 (Ins.self J2) (g := (mkF m 10 #[.val (.ref b), .val (.int (4 : Int32)), .unset] [(.ref b2)])) rfl rfl (hb hby own_d_jdk_65_method_123_10)
  refine own_Goes.st ?_ st7
  show own_Goes p.tables e below P (T7.setTop (mkF m 13 #[.val (.ref b), .val (.int (4 : Int32)), .unset] [(.ref b2)]))
  obtain ⟨fs, hr, hrun, hended, hW, hsame⟩ := X7.leave (v := some (.ref b2)) (fun h => by rw [Bd.returns] at h; cases h)
  exact own_Goes.fin _ _ (retOut X7 hx (t := (.array .int)) Bd.returns rfl (Or.inr (Or.inr (Or.inr (Or.inr ⟨rfl, rfl, rfl⟩)))) (hb hby own_d_jdk_65_method_123_13) hr) (hPP _ _ ⟨hrun, hended, _, _, rfl, (by show Q_copy_4_4_4 Z b k x0 x1 x2 x3 h0 n0 _ T7.heap _; rw [e7]; exact ⟨b2, k, rfl, N0, K5, sz_b2, V6, J2⟩), ⟨_, rfl⟩, hW, hsame.mono (by decide) (by decide)⟩)
theorem own_ef_copy_5_8_5 (m : MethodId) (x0 : Addr) : entryFrame m #[(.ref x0), (.int (5 : Int32))] 3 = mkF m 0 #[.val (.ref x0), .val (.int (5 : Int32)), .unset] [] := by first | (simp [entryFrame, mkF, argsToLocals, Value.category]; done) | rfl
def Q_copy_5_8_5 (Z : State) (b : Addr) (k : ClassId) (x0 : Int32) (x1 : Int32) (x2 : Int32) (x3 : Int32) (x4 : Int32) (h0 : Heap) (n0 : Nat) (rv_ : Option Value) (h_ : Heap) (L_ : List Loc) : Prop := ∃ (r : Addr) (q : ClassId), rv_ = some (.ref r) ∧ Fr n0 L_ ∧ Keep h0 h_ [] ∧ (h0.size ≤ r) ∧ (Arv Z h_ r q .int (5 : Int32) [(.int x0), (.int x1), (.int x2), (.int x3), (.int x4)] (.int 0)) ∧ (Exa Z h_ r "[I")
set_option maxRecDepth 65536 in
set_option maxHeartbeats 40000000 in
theorem rm_copy_5_8_5 (l : Launch) (Z : State) (a0 : Array Value) (hw : ∀ d ∈ tables_1, d.before a0 Z = true) (ws : List Jvm.Cond) (b : Addr) (k : ClassId) (x0 : Int32) (x1 : Int32) (x2 : Int32) (x3 : Int32) (x4 : Int32) (h0 : Heap) (n0 : Nat) (Z0 : n0 ≤ h0.size) (pr0 : Arv Z h0 b k .int (8 : Int32) [(.int x0), (.int x1), (.int x2), (.int x3), (.int x4), (.int (0 : Int32)), (.int (0 : Int32)), (.int (0 : Int32))] (.int 0)) (pr1 : Exa Z h0 b "[I") :
    MetFree l (⟨"java/util/Arrays", "copyOf", "([II)[I"⟩ : MethodName) (head1 (Jvm.Cond.code (⟨"java/util/Arrays", "copyOf", "([II)[I"⟩ : MethodName) jdk_65_method_123_code 3 (some (.array .int)) :: ws) ({ frames := 1, cells := 1, slots := 5, locals := 18 } : Room)) (fun as_ U => as_ = #[(.ref b), (.int (5 : Int32))] ∧ Z.Warmed39 U.vm ∧ U.heap = h0) (fun _ _ _ _ _ => True) (fun _ U o U' => ∃ rv_ L_, o = .returned rv_ ∧ Q_copy_5_8_5 Z b k x0 x1 x2 x3 x4 h0 n0 rv_ U'.heap L_ ∧ FrameEnd U o U' L_ ({ frames := 1, cells := 1, slots := 5, locals := 18 } : Room).cells ({ frames := 1, cells := 1, slots := 5, locals := 18 } : Room).slots) := by
  refine MetFree.of_bodySF (plainFor_of_name own_pn_java_util_Arrays) hisR ?_
  intro p e s m args below meth c s₁ Bd hml0 hP hK
  obtain ⟨rfl, hZ, hh⟩ := hP
  have hx := Bd.exec
  have hby := Bd.bytes
  have hml : c.maxLocals = 3 := hml0
  have hown : s.vm.findClass "java/util/Arrays" = some m.cls := findClass_of_methodNamed Bd.named
  have hnm := (name_of_methodNamed Bd.named Bd.method).1
  have X0 : Stand p l e ({ frames := 1, cells := 1, slots := 5, locals := 18 } : Room) s m #[(.ref b), (.int (5 : Int32))] below meth c s₁ [] 0 0 := Stand.of_body Bd
  have e0 : s₁.heap = h0 := by rw [← hh, Bd.state]; rfl
  have N0 := Fr.nil n0
  refine own_Goes.of ?_
  refine own_Goes.nm (fun P hPP => ?_)
  refine own_Goes.st ?_ (fun _ k => castTop (own_ef_copy_5_8_5 m b) k)
  have K0 : Keep h0 h0 [] := Keep.refl _ _
  show own_Goes p.tables e below P (s₁.setTop (mkF m 0 #[.val (.ref b), .val (.int (5 : Int32)), .unset] []))
  refine own_Goes.st ?_ (fun _ k => XS.iloadN X0.here hx rfl (hb hby own_d_jdk_65_method_123_0) rfl k)
  show own_Goes p.tables e below P (s₁.setTop (mkF m 1 #[.val (.ref b), .val (.int (5 : Int32)), .unset] [(.int (5 : Int32))]))
  refine own_Goes.st ?_ (fun _ k => XS.aloadN X0.here hx rfl (hb hby own_d_jdk_65_method_123_1) rfl rfl k)
  show own_Goes p.tables e below P (s₁.setTop (mkF m 2 #[.val (.ref b), .val (.int (5 : Int32)), .unset] [(.ref b), (.int (5 : Int32))]))
  have Vc1 := pr0
  obtain ⟨cl1, Ar1, qc1, S1, Nn1, Hs1, Gs1⟩ := Vc1
  refine own_Goes.st ?_ (X0.arraylength hx (by rw [e0]; exact Ar1.1) (State.isArrayOf_alike hZ.alike Ar1.2.1) (g := (mkF m 2 #[.val (.ref b), .val (.int (5 : Int32)), .unset] [(.ref b), (.int (5 : Int32))])) rfl rfl (hb hby own_d_jdk_65_method_123_2))
  rw [len_of S1 Nn1]
  show own_Goes p.tables e below P (s₁.setTop (mkF m 3 #[.val (.ref b), .val (.int (5 : Int32)), .unset] [(.int (8 : Int32)), (.int (5 : Int32))]))
  refine own_Goes.st ?_ (fun _ k => XS.icmpYes X0.here hx rfl (pc0 := 3) (pc' := 14) rfl (hb hby own_d_jdk_65_method_123_3) rfl (feq (by decide : ¬ ((5 : Int32) = (8 : Int32)))).2 (by decide) (by decide) k)
  show own_Goes p.tables e below P (s₁.setTop (mkF m 14 #[.val (.ref b), .val (.int (5 : Int32)), .unset] []))
  refine own_Goes.st ?_ (fun _ k => XS.iloadN X0.here hx rfl (hb hby own_d_jdk_65_method_123_14) rfl k)
  show own_Goes p.tables e below P (s₁.setTop (mkF m 15 #[.val (.ref b), .val (.int (5 : Int32)), .unset] [(.int (5 : Int32))]))
  obtain ⟨T2, h2, k2, X2, e2, E2, A2, J2, st2⟩ := newPE X0 hx hZ (hw _ (List.mem_of_getElem? (i := 11) rfl)) e0 (g := (mkF m 15 #[.val (.ref b), .val (.int (5 : Int32)), .unset] [(.int (5 : Int32))])) rfl (hb hby own_d_jdk_65_method_123_15) rfl (by decide) (cap := 5) (by decide) (by decide) (by decide) (by decide) (ad := "[I") rfl
  obtain ⟨b2, g2⟩ : ∃ z, z = h0.size := ⟨_, rfl⟩
  rw [← g2] at A2 J2 st2
  have ne3 : b ≠ b2 := Nat.ne_of_lt (Nat.lt_of_lt_of_eq pr0.lt g2.symm)
  have ge_b2 : n0 ≤ b2 := Nat.le_trans Z0 (Nat.le_of_eq g2.symm)
  have sz_b2 : h0.size ≤ b2 := Nat.le_trans K0.1 (Nat.le_of_eq g2.symm)
  refine own_Goes.st ?_ st2
  have Z4 : n0 ≤ h2.size := Nat.le_trans Z0 E2.1
  have K5 := K0.ext E2
  have V6 : Arv Z h2 b2 k2 .int (5 : Int32) [(.int (0 : Int32)), (.int (0 : Int32)), (.int (0 : Int32)), (.int (0 : Int32)), (.int (0 : Int32))] (.int 0) := (Arv.new A2 (by decide)).pad (pad_rep [] _ 5)
  show own_Goes p.tables e below P (T2.setTop (mkF m 17 #[.val (.ref b), .val (.int (5 : Int32)), .unset] [(.ref b2)]))
  refine own_Goes.st ?_ (fun _ k => XS.astoreN X2.here hx rfl (hb hby own_d_jdk_65_method_123_17) rfl rfl (l' := #[.val (.ref b), .val (.int (5 : Int32)), .val (.ref b2)]) rfl k)
  show own_Goes p.tables e below P (T2.setTop (mkF m 18 #[.val (.ref b), .val (.int (5 : Int32)), .val (.ref b2)] []))
  refine own_Goes.st ?_ (fun _ k => XS.aloadN X2.here hx rfl (hb hby own_d_jdk_65_method_123_18) rfl rfl k)
  show own_Goes p.tables e below P (T2.setTop (mkF m 19 #[.val (.ref b), .val (.int (5 : Int32)), .val (.ref b2)] [(.ref b)]))
  refine own_Goes.st ?_ (fun _ k => XS.iconst X2.here hx rfl (hb hby own_d_jdk_65_method_123_19) k)
  show own_Goes p.tables e below P (T2.setTop (mkF m 20 #[.val (.ref b), .val (.int (5 : Int32)), .val (.ref b2)] [(.int (0 : Int32)), (.ref b)]))
  refine own_Goes.st ?_ (fun _ k => XS.aloadN X2.here hx rfl (hb hby own_d_jdk_65_method_123_20) rfl rfl k)
  show own_Goes p.tables e below P (T2.setTop (mkF m 21 #[.val (.ref b), .val (.int (5 : Int32)), .val (.ref b2)] [(.ref b2), (.int (0 : Int32)), (.ref b)]))
  refine own_Goes.st ?_ (fun _ k => XS.iconst X2.here hx rfl (hb hby own_d_jdk_65_method_123_21) k)
  show own_Goes p.tables e below P (T2.setTop (mkF m 22 #[.val (.ref b), .val (.int (5 : Int32)), .val (.ref b2)] [(.int (0 : Int32)), (.ref b2), (.int (0 : Int32)), (.ref b)]))
  refine own_Goes.st ?_ (fun _ k => XS.aloadN X2.here hx rfl (hb hby own_d_jdk_65_method_123_22) rfl rfl k)
  show own_Goes p.tables e below P (T2.setTop (mkF m 23 #[.val (.ref b), .val (.int (5 : Int32)), .val (.ref b2)] [(.ref b), (.int (0 : Int32)), (.ref b2), (.int (0 : Int32)), (.ref b)]))
  have F7 : Arv Z h2 b k .int (8 : Int32) [(.int x0), (.int x1), (.int x2), (.int x3), (.int x4), (.int (0 : Int32)), (.int (0 : Int32)), (.int (0 : Int32))] (.int 0) := (pr0.ext E2)
  have Vc8 := F7
  obtain ⟨cl8, Ar8, qc8, S8, Nn8, Hs8, Gs8⟩ := Vc8
  refine own_Goes.st ?_ (X2.arraylength hx (by rw [e2]; exact Ar8.1) (State.isArrayOf_alike hZ.alike Ar8.2.1) (g := (mkF m 23 #[.val (.ref b), .val (.int (5 : Int32)), .val (.ref b2)] [(.ref b), (.int (0 : Int32)), (.ref b2), (.int (0 : Int32)), (.ref b)])) rfl rfl (hb hby own_d_jdk_65_method_123_23))
  rw [len_of S8 Nn8]
  show own_Goes p.tables e below P (T2.setTop (mkF m 24 #[.val (.ref b), .val (.int (5 : Int32)), .val (.ref b2)] [(.int (8 : Int32)), (.int (0 : Int32)), (.ref b2), (.int (0 : Int32)), (.ref b)]))
  refine own_Goes.st ?_ (fun _ k => XS.iloadN X2.here hx rfl (hb hby own_d_jdk_65_method_123_24) rfl k)
  show own_Goes p.tables e below P (T2.setTop (mkF m 25 #[.val (.ref b), .val (.int (5 : Int32)), .val (.ref b2)] [(.int (5 : Int32)), (.int (8 : Int32)), (.int (0 : Int32)), (.ref b2), (.int (0 : Int32)), (.ref b)]))
  obtain ⟨_, _, ⟨T9, L9, k9, n9⟩, -, X9, ⟨Lc9, hQ9, l9, y9, z9⟩, st9⟩ := Jvm.LawKit.callS X2 hx (y := (⟨"java/lang/Math", "min", "(II)I"⟩ : MethodName)) hown (mvT hZ (hw _ (List.mem_of_getElem? (i := 30) rfl))) (mvT hZ (hw _ (List.mem_of_getElem? (i := 31) rfl))) (mvT hZ (hw _ (List.mem_of_getElem? (i := 32) rfl))) (mvT hZ (hw _ (List.mem_of_getElem? (i := 33) rfl))) (by decide) (backOf (W := 4) (rm_imin l Z a0 hw [] (8 : Int32) (5 : Int32) h2 n0 Z4) hZ (hw _ (List.mem_of_getElem? (i := 33) rfl)) (hw _ (List.mem_of_getElem? (i := 32) rfl)) (by decide) (by decide)) (g := (mkF m 25 #[.val (.ref b), .val (.int (5 : Int32)), .val (.ref b2)] [(.int (5 : Int32)), (.int (8 : Int32)), (.int (0 : Int32)), (.ref b2), (.int (0 : Int32)), (.ref b)])) rfl (by rw [hml]; rfl) (argsL := [(.int (8 : Int32)), (.int (5 : Int32))]) (rest := [(.int (0 : Int32)), (.ref b2), (.int (0 : Int32)), (.ref b)]) (lenOf own_pd__28_II_29_I rfl) rfl (by show 2 * 0 + _ ≤ _; exact Nat.le_of_eq rfl) (hb hby own_d_jdk_65_method_123_25) (fun _ _ => ⟨rfl, e2, (by decide : 1 + 0 ≤ _), (by decide : 5 + 0 ≤ _)⟩)
  dsimp only [Pt.U, Pt.locs, Pt.cells, Pt.slots] at X9 l9 y9 z9 st9 hQ9
  rw [l9, y9, z9] at X9
  obtain ⟨rfl, Nq9, e9⟩ := hQ9
  have N9 := Fr.app N0 Nq9
  refine own_Goes.st ?_ st9
  show own_Goes p.tables e below P (T9.setTop (mkF m 28 #[.val (.ref b), .val (.int (5 : Int32)), .val (.ref b2)] [(.int (own_imin (8 : Int32) (5 : Int32))), (.int (0 : Int32)), (.ref b2), (.int (0 : Int32)), (.ref b)]))
  rw [(rfl : own_imin (8 : Int32) (5 : Int32) = (5 : Int32))]
  show own_Goes p.tables e below P (T9.setTop (mkF m 28 #[.val (.ref b), .val (.int (5 : Int32)), .val (.ref b2)] [(.int (5 : Int32)), (.int (0 : Int32)), (.ref b2), (.int (0 : Int32)), (.ref b)]))
  obtain ⟨T10, h10, L10, X10, e10, N10, K10, V10, st10⟩ := cpA X9 hx hZ hown (hw _ (List.mem_of_getElem? (i := 34) rfl)) (hw _ (List.mem_of_getElem? (i := 37) rfl)) (hw _ (List.mem_of_getElem? (i := 35) rfl)) (hw _ (List.mem_of_getElem? (i := 36) rfl)) e9 (sp := (0 : Int32)) (dp := (0 : Int32)) (nn := (5 : Int32)) (us := [(.int x0), (.int x1), (.int x2), (.int x3), (.int x4)]) F7 V6 (Or.inl ⟨rfl, rfl⟩) (by decide) (by decide) (by decide) (by decide) (by decide) rfl (by decide) N9 ge_b2 (g := (mkF m 28 #[.val (.ref b), .val (.int (5 : Int32)), .val (.ref b2)] [(.int (5 : Int32)), (.int (0 : Int32)), (.ref b2), (.int (0 : Int32)), (.ref b)])) rfl (by rw [hml]; rfl) rfl (hb hby own_d_jdk_65_method_123_28) (by decide) (W := 0) (by show 2 * 0 + _ ≤ _; exact Nat.le_of_eq rfl) (by decide)
  refine own_Goes.st ?_ st10
  have V11 : Arv Z h10 b2 k2 .int (5 : Int32) [(.int x0), (.int x1), (.int x2), (.int x3), (.int x4)] (.int 0) := V10
  have Z12 : n0 ≤ h10.size := Nat.le_trans Z4 K10.1
  have K13 := K5.trans K10 (allS (Or.inr sz_b2) all0)
  show own_Goes p.tables e below P (T10.setTop (mkF m 31 #[.val (.ref b), .val (.int (5 : Int32)), .val (.ref b2)] []))
  refine own_Goes.st ?_ (fun _ k => XS.aloadN X10.here hx rfl (hb hby own_d_jdk_65_method_123_31) rfl rfl k)
  show own_Goes p.tables e below P (T10.setTop (mkF m 32 #[.val (.ref b), .val (.int (5 : Int32)), .val (.ref b2)] [(.ref b2)]))
  obtain ⟨fs, hr, hrun, hended, hW, hsame⟩ := X10.leave (v := some (.ref b2)) (fun h => by rw [Bd.returns] at h; cases h)
  have F14 : Exa Z h10 b2 "[I" := (J2.keep K10)
  exact own_Goes.fin _ _ (retOut X10 hx (t := (.array .int)) Bd.returns rfl (Or.inr (Or.inr (Or.inr (Or.inr ⟨rfl, rfl, rfl⟩)))) (hb hby own_d_jdk_65_method_123_32) hr) (hPP _ _ ⟨hrun, hended, _, _, rfl, (by show Q_copy_5_8_5 Z b k x0 x1 x2 x3 x4 h0 n0 _ T10.heap _; rw [e10]; exact ⟨b2, k2, rfl, N10, K13, sz_b2, V11, F14⟩), ⟨_, rfl⟩, hW, hsame.mono (by decide) (by decide)⟩)
theorem own_ef_copy_6_8_6 (m : MethodId) (x0 : Addr) : entryFrame m #[(.ref x0), (.int (6 : Int32))] 3 = mkF m 0 #[.val (.ref x0), .val (.int (6 : Int32)), .unset] [] := by first | (simp [entryFrame, mkF, argsToLocals, Value.category]; done) | rfl
def Q_copy_6_8_6 (Z : State) (b : Addr) (k : ClassId) (x0 : Int32) (x1 : Int32) (x2 : Int32) (x3 : Int32) (x4 : Int32) (x5 : Int32) (h0 : Heap) (n0 : Nat) (rv_ : Option Value) (h_ : Heap) (L_ : List Loc) : Prop := ∃ (r : Addr) (q : ClassId), rv_ = some (.ref r) ∧ Fr n0 L_ ∧ Keep h0 h_ [] ∧ (h0.size ≤ r) ∧ (Arv Z h_ r q .int (6 : Int32) [(.int x0), (.int x1), (.int x2), (.int x3), (.int x4), (.int x5)] (.int 0)) ∧ (Exa Z h_ r "[I")
set_option maxRecDepth 65536 in
set_option maxHeartbeats 40000000 in
theorem rm_copy_6_8_6 (l : Launch) (Z : State) (a0 : Array Value) (hw : ∀ d ∈ tables_1, d.before a0 Z = true) (ws : List Jvm.Cond) (b : Addr) (k : ClassId) (x0 : Int32) (x1 : Int32) (x2 : Int32) (x3 : Int32) (x4 : Int32) (x5 : Int32) (h0 : Heap) (n0 : Nat) (Z0 : n0 ≤ h0.size) (pr0 : Arv Z h0 b k .int (8 : Int32) [(.int x0), (.int x1), (.int x2), (.int x3), (.int x4), (.int x5), (.int (0 : Int32)), (.int (0 : Int32))] (.int 0)) (pr1 : Exa Z h0 b "[I") :
    MetFree l (⟨"java/util/Arrays", "copyOf", "([II)[I"⟩ : MethodName) (head1 (Jvm.Cond.code (⟨"java/util/Arrays", "copyOf", "([II)[I"⟩ : MethodName) jdk_65_method_123_code 3 (some (.array .int)) :: ws) ({ frames := 1, cells := 1, slots := 6, locals := 18 } : Room)) (fun as_ U => as_ = #[(.ref b), (.int (6 : Int32))] ∧ Z.Warmed39 U.vm ∧ U.heap = h0) (fun _ _ _ _ _ => True) (fun _ U o U' => ∃ rv_ L_, o = .returned rv_ ∧ Q_copy_6_8_6 Z b k x0 x1 x2 x3 x4 x5 h0 n0 rv_ U'.heap L_ ∧ FrameEnd U o U' L_ ({ frames := 1, cells := 1, slots := 6, locals := 18 } : Room).cells ({ frames := 1, cells := 1, slots := 6, locals := 18 } : Room).slots) := by
  refine MetFree.of_bodySF (plainFor_of_name own_pn_java_util_Arrays) hisR ?_
  intro p e s m args below meth c s₁ Bd hml0 hP hK
  obtain ⟨rfl, hZ, hh⟩ := hP
  have hx := Bd.exec
  have hby := Bd.bytes
  have hml : c.maxLocals = 3 := hml0
  have hown : s.vm.findClass "java/util/Arrays" = some m.cls := findClass_of_methodNamed Bd.named
  have hnm := (name_of_methodNamed Bd.named Bd.method).1
  have X0 : Stand p l e ({ frames := 1, cells := 1, slots := 6, locals := 18 } : Room) s m #[(.ref b), (.int (6 : Int32))] below meth c s₁ [] 0 0 := Stand.of_body Bd
  have e0 : s₁.heap = h0 := by rw [← hh, Bd.state]; rfl
  have N0 := Fr.nil n0
  refine own_Goes.of ?_
  refine own_Goes.nm (fun P hPP => ?_)
  refine own_Goes.st ?_ (fun _ k => castTop (own_ef_copy_6_8_6 m b) k)
  have K0 : Keep h0 h0 [] := Keep.refl _ _
  show own_Goes p.tables e below P (s₁.setTop (mkF m 0 #[.val (.ref b), .val (.int (6 : Int32)), .unset] []))
  refine own_Goes.st ?_ (fun _ k => XS.iloadN X0.here hx rfl (hb hby own_d_jdk_65_method_123_0) rfl k)
  show own_Goes p.tables e below P (s₁.setTop (mkF m 1 #[.val (.ref b), .val (.int (6 : Int32)), .unset] [(.int (6 : Int32))]))
  refine own_Goes.st ?_ (fun _ k => XS.aloadN X0.here hx rfl (hb hby own_d_jdk_65_method_123_1) rfl rfl k)
  show own_Goes p.tables e below P (s₁.setTop (mkF m 2 #[.val (.ref b), .val (.int (6 : Int32)), .unset] [(.ref b), (.int (6 : Int32))]))
  have Vc1 := pr0
  obtain ⟨cl1, Ar1, qc1, S1, Nn1, Hs1, Gs1⟩ := Vc1
  refine own_Goes.st ?_ (X0.arraylength hx (by rw [e0]; exact Ar1.1) (State.isArrayOf_alike hZ.alike Ar1.2.1) (g := (mkF m 2 #[.val (.ref b), .val (.int (6 : Int32)), .unset] [(.ref b), (.int (6 : Int32))])) rfl rfl (hb hby own_d_jdk_65_method_123_2))
  rw [len_of S1 Nn1]
  show own_Goes p.tables e below P (s₁.setTop (mkF m 3 #[.val (.ref b), .val (.int (6 : Int32)), .unset] [(.int (8 : Int32)), (.int (6 : Int32))]))
  refine own_Goes.st ?_ (fun _ k => XS.icmpYes X0.here hx rfl (pc0 := 3) (pc' := 14) rfl (hb hby own_d_jdk_65_method_123_3) rfl (feq (by decide : ¬ ((6 : Int32) = (8 : Int32)))).2 (by decide) (by decide) k)
  show own_Goes p.tables e below P (s₁.setTop (mkF m 14 #[.val (.ref b), .val (.int (6 : Int32)), .unset] []))
  refine own_Goes.st ?_ (fun _ k => XS.iloadN X0.here hx rfl (hb hby own_d_jdk_65_method_123_14) rfl k)
  show own_Goes p.tables e below P (s₁.setTop (mkF m 15 #[.val (.ref b), .val (.int (6 : Int32)), .unset] [(.int (6 : Int32))]))
  obtain ⟨T2, h2, k2, X2, e2, E2, A2, J2, st2⟩ := newPE X0 hx hZ (hw _ (List.mem_of_getElem? (i := 11) rfl)) e0 (g := (mkF m 15 #[.val (.ref b), .val (.int (6 : Int32)), .unset] [(.int (6 : Int32))])) rfl (hb hby own_d_jdk_65_method_123_15) rfl (by decide) (cap := 6) (by decide) (by decide) (by decide) (by decide) (ad := "[I") rfl
  obtain ⟨b2, g2⟩ : ∃ z, z = h0.size := ⟨_, rfl⟩
  rw [← g2] at A2 J2 st2
  have ne3 : b ≠ b2 := Nat.ne_of_lt (Nat.lt_of_lt_of_eq pr0.lt g2.symm)
  have ge_b2 : n0 ≤ b2 := Nat.le_trans Z0 (Nat.le_of_eq g2.symm)
  have sz_b2 : h0.size ≤ b2 := Nat.le_trans K0.1 (Nat.le_of_eq g2.symm)
  refine own_Goes.st ?_ st2
  have Z4 : n0 ≤ h2.size := Nat.le_trans Z0 E2.1
  have K5 := K0.ext E2
  have V6 : Arv Z h2 b2 k2 .int (6 : Int32) [(.int (0 : Int32)), (.int (0 : Int32)), (.int (0 : Int32)), (.int (0 : Int32)), (.int (0 : Int32)), (.int (0 : Int32))] (.int 0) := (Arv.new A2 (by decide)).pad (pad_rep [] _ 6)
  show own_Goes p.tables e below P (T2.setTop (mkF m 17 #[.val (.ref b), .val (.int (6 : Int32)), .unset] [(.ref b2)]))
  refine own_Goes.st ?_ (fun _ k => XS.astoreN X2.here hx rfl (hb hby own_d_jdk_65_method_123_17) rfl rfl (l' := #[.val (.ref b), .val (.int (6 : Int32)), .val (.ref b2)]) rfl k)
  show own_Goes p.tables e below P (T2.setTop (mkF m 18 #[.val (.ref b), .val (.int (6 : Int32)), .val (.ref b2)] []))
  refine own_Goes.st ?_ (fun _ k => XS.aloadN X2.here hx rfl (hb hby own_d_jdk_65_method_123_18) rfl rfl k)
  show own_Goes p.tables e below P (T2.setTop (mkF m 19 #[.val (.ref b), .val (.int (6 : Int32)), .val (.ref b2)] [(.ref b)]))
  refine own_Goes.st ?_ (fun _ k => XS.iconst X2.here hx rfl (hb hby own_d_jdk_65_method_123_19) k)
  show own_Goes p.tables e below P (T2.setTop (mkF m 20 #[.val (.ref b), .val (.int (6 : Int32)), .val (.ref b2)] [(.int (0 : Int32)), (.ref b)]))
  refine own_Goes.st ?_ (fun _ k => XS.aloadN X2.here hx rfl (hb hby own_d_jdk_65_method_123_20) rfl rfl k)
  show own_Goes p.tables e below P (T2.setTop (mkF m 21 #[.val (.ref b), .val (.int (6 : Int32)), .val (.ref b2)] [(.ref b2), (.int (0 : Int32)), (.ref b)]))
  refine own_Goes.st ?_ (fun _ k => XS.iconst X2.here hx rfl (hb hby own_d_jdk_65_method_123_21) k)
  show own_Goes p.tables e below P (T2.setTop (mkF m 22 #[.val (.ref b), .val (.int (6 : Int32)), .val (.ref b2)] [(.int (0 : Int32)), (.ref b2), (.int (0 : Int32)), (.ref b)]))
  refine own_Goes.st ?_ (fun _ k => XS.aloadN X2.here hx rfl (hb hby own_d_jdk_65_method_123_22) rfl rfl k)
  show own_Goes p.tables e below P (T2.setTop (mkF m 23 #[.val (.ref b), .val (.int (6 : Int32)), .val (.ref b2)] [(.ref b), (.int (0 : Int32)), (.ref b2), (.int (0 : Int32)), (.ref b)]))
  have F7 : Arv Z h2 b k .int (8 : Int32) [(.int x0), (.int x1), (.int x2), (.int x3), (.int x4), (.int x5), (.int (0 : Int32)), (.int (0 : Int32))] (.int 0) := (pr0.ext E2)
  have Vc8 := F7
  obtain ⟨cl8, Ar8, qc8, S8, Nn8, Hs8, Gs8⟩ := Vc8
  refine own_Goes.st ?_ (X2.arraylength hx (by rw [e2]; exact Ar8.1) (State.isArrayOf_alike hZ.alike Ar8.2.1) (g := (mkF m 23 #[.val (.ref b), .val (.int (6 : Int32)), .val (.ref b2)] [(.ref b), (.int (0 : Int32)), (.ref b2), (.int (0 : Int32)), (.ref b)])) rfl rfl (hb hby own_d_jdk_65_method_123_23))
  rw [len_of S8 Nn8]
  show own_Goes p.tables e below P (T2.setTop (mkF m 24 #[.val (.ref b), .val (.int (6 : Int32)), .val (.ref b2)] [(.int (8 : Int32)), (.int (0 : Int32)), (.ref b2), (.int (0 : Int32)), (.ref b)]))
  refine own_Goes.st ?_ (fun _ k => XS.iloadN X2.here hx rfl (hb hby own_d_jdk_65_method_123_24) rfl k)
  show own_Goes p.tables e below P (T2.setTop (mkF m 25 #[.val (.ref b), .val (.int (6 : Int32)), .val (.ref b2)] [(.int (6 : Int32)), (.int (8 : Int32)), (.int (0 : Int32)), (.ref b2), (.int (0 : Int32)), (.ref b)]))
  obtain ⟨_, _, ⟨T9, L9, k9, n9⟩, -, X9, ⟨Lc9, hQ9, l9, y9, z9⟩, st9⟩ := Jvm.LawKit.callS X2 hx (y := (⟨"java/lang/Math", "min", "(II)I"⟩ : MethodName)) hown (mvT hZ (hw _ (List.mem_of_getElem? (i := 30) rfl))) (mvT hZ (hw _ (List.mem_of_getElem? (i := 31) rfl))) (mvT hZ (hw _ (List.mem_of_getElem? (i := 32) rfl))) (mvT hZ (hw _ (List.mem_of_getElem? (i := 33) rfl))) (by decide) (backOf (W := 4) (rm_imin l Z a0 hw [] (8 : Int32) (6 : Int32) h2 n0 Z4) hZ (hw _ (List.mem_of_getElem? (i := 33) rfl)) (hw _ (List.mem_of_getElem? (i := 32) rfl)) (by decide) (by decide)) (g := (mkF m 25 #[.val (.ref b), .val (.int (6 : Int32)), .val (.ref b2)] [(.int (6 : Int32)), (.int (8 : Int32)), (.int (0 : Int32)), (.ref b2), (.int (0 : Int32)), (.ref b)])) rfl (by rw [hml]; rfl) (argsL := [(.int (8 : Int32)), (.int (6 : Int32))]) (rest := [(.int (0 : Int32)), (.ref b2), (.int (0 : Int32)), (.ref b)]) (lenOf own_pd__28_II_29_I rfl) rfl (by show 2 * 0 + _ ≤ _; exact Nat.le_of_eq rfl) (hb hby own_d_jdk_65_method_123_25) (fun _ _ => ⟨rfl, e2, (by decide : 1 + 0 ≤ _), (by decide : 6 + 0 ≤ _)⟩)
  dsimp only [Pt.U, Pt.locs, Pt.cells, Pt.slots] at X9 l9 y9 z9 st9 hQ9
  rw [l9, y9, z9] at X9
  obtain ⟨rfl, Nq9, e9⟩ := hQ9
  have N9 := Fr.app N0 Nq9
  refine own_Goes.st ?_ st9
  show own_Goes p.tables e below P (T9.setTop (mkF m 28 #[.val (.ref b), .val (.int (6 : Int32)), .val (.ref b2)] [(.int (own_imin (8 : Int32) (6 : Int32))), (.int (0 : Int32)), (.ref b2), (.int (0 : Int32)), (.ref b)]))
  rw [(rfl : own_imin (8 : Int32) (6 : Int32) = (6 : Int32))]
  show own_Goes p.tables e below P (T9.setTop (mkF m 28 #[.val (.ref b), .val (.int (6 : Int32)), .val (.ref b2)] [(.int (6 : Int32)), (.int (0 : Int32)), (.ref b2), (.int (0 : Int32)), (.ref b)]))
  obtain ⟨T10, h10, L10, X10, e10, N10, K10, V10, st10⟩ := cpA X9 hx hZ hown (hw _ (List.mem_of_getElem? (i := 34) rfl)) (hw _ (List.mem_of_getElem? (i := 37) rfl)) (hw _ (List.mem_of_getElem? (i := 35) rfl)) (hw _ (List.mem_of_getElem? (i := 36) rfl)) e9 (sp := (0 : Int32)) (dp := (0 : Int32)) (nn := (6 : Int32)) (us := [(.int x0), (.int x1), (.int x2), (.int x3), (.int x4), (.int x5)]) F7 V6 (Or.inl ⟨rfl, rfl⟩) (by decide) (by decide) (by decide) (by decide) (by decide) rfl (by decide) N9 ge_b2 (g := (mkF m 28 #[.val (.ref b), .val (.int (6 : Int32)), .val (.ref b2)] [(.int (6 : Int32)), (.int (0 : Int32)), (.ref b2), (.int (0 : Int32)), (.ref b)])) rfl (by rw [hml]; rfl) rfl (hb hby own_d_jdk_65_method_123_28) (by decide) (W := 0) (by show 2 * 0 + _ ≤ _; exact Nat.le_of_eq rfl) (by decide)
  refine own_Goes.st ?_ st10
  have V11 : Arv Z h10 b2 k2 .int (6 : Int32) [(.int x0), (.int x1), (.int x2), (.int x3), (.int x4), (.int x5)] (.int 0) := V10
  have Z12 : n0 ≤ h10.size := Nat.le_trans Z4 K10.1
  have K13 := K5.trans K10 (allS (Or.inr sz_b2) all0)
  show own_Goes p.tables e below P (T10.setTop (mkF m 31 #[.val (.ref b), .val (.int (6 : Int32)), .val (.ref b2)] []))
  refine own_Goes.st ?_ (fun _ k => XS.aloadN X10.here hx rfl (hb hby own_d_jdk_65_method_123_31) rfl rfl k)
  show own_Goes p.tables e below P (T10.setTop (mkF m 32 #[.val (.ref b), .val (.int (6 : Int32)), .val (.ref b2)] [(.ref b2)]))
  obtain ⟨fs, hr, hrun, hended, hW, hsame⟩ := X10.leave (v := some (.ref b2)) (fun h => by rw [Bd.returns] at h; cases h)
  have F14 : Exa Z h10 b2 "[I" := (J2.keep K10)
  exact own_Goes.fin _ _ (retOut X10 hx (t := (.array .int)) Bd.returns rfl (Or.inr (Or.inr (Or.inr (Or.inr ⟨rfl, rfl, rfl⟩)))) (hb hby own_d_jdk_65_method_123_32) hr) (hPP _ _ ⟨hrun, hended, _, _, rfl, (by show Q_copy_6_8_6 Z b k x0 x1 x2 x3 x4 x5 h0 n0 _ T10.heap _; rw [e10]; exact ⟨b2, k2, rfl, N10, K13, sz_b2, V11, F14⟩), ⟨_, rfl⟩, hW, hsame.mono (by decide) (by decide)⟩)
theorem own_ef_toarr_0 (m : MethodId) (x0 : Addr) : entryFrame m #[(.ref x0)] 1 = mkF m 0 #[.val (.ref x0)] [] := by first | (simp [entryFrame, mkF, argsToLocals, Value.category]; done) | rfl
theorem own_d_prog_11_method_7_0 : decode prog_11_method_7_code 0 = .ok (.aload_n 0, 1) := by decide +kernel
theorem own_d_prog_11_method_7_1 : decode prog_11_method_7_code 1 = .ok (.getfield 7, 3) := by decide +kernel
theorem own_d_prog_11_method_7_4 : decode prog_11_method_7_code 4 = .ok (.aload_n 0, 1) := by decide +kernel
theorem own_d_prog_11_method_7_5 : decode prog_11_method_7_code 5 = .ok (.getfield 13, 3) := by decide +kernel
theorem own_d_prog_11_method_7_8 : decode prog_11_method_7_code 8 = .ok (.invokestatic 17, 3) := by decide +kernel
theorem own_d_prog_11_method_7_11 : decode prog_11_method_7_code 11 = .ok (.areturn, 1) := by decide +kernel
def Q_toarr_0 (Z : State) (a : Addr) (b : Addr) (k : ClassId) (h0 : Heap) (n0 : Nat) (rv_ : Option Value) (h_ : Heap) (L_ : List Loc) : Prop := ∃ (r : Addr) (q : ClassId), rv_ = some (.ref r) ∧ Fr n0 L_ ∧ Keep h0 h_ [] ∧ (h0.size ≤ r) ∧ (Arv Z h_ r q .int (0 : Int32) [] (.int 0))
set_option maxRecDepth 65536 in
set_option maxHeartbeats 40000000 in
theorem rm_toarr_0 (l : Launch) (Z : State) (a0 : Array Value) (hw : ∀ d ∈ tables_1, d.before a0 Z = true) (ws : List Jvm.Cond) (a : Addr) (b : Addr) (k : ClassId) (h0 : Heap) (n0 : Nat) (Z0 : n0 ≤ h0.size) (pr0 : Fld Z h0 a "com/example/usnea/usnea/datalog/IntList" "values" "[I" (.ref b)) (pr1 : Fld Z h0 a "com/example/usnea/usnea/datalog/IntList" "size" "I" (.int (0 : Int32))) (pr2 : Arv Z h0 b k .int (4 : Int32) [(.int (0 : Int32)), (.int (0 : Int32)), (.int (0 : Int32)), (.int (0 : Int32))] (.int 0)) (pr3 : Exa Z h0 b "[I") :
    MetFree l (⟨"com/example/usnea/usnea/datalog/IntList", "toArray", "()[I"⟩ : MethodName) (head1 (Jvm.Cond.code (⟨"com/example/usnea/usnea/datalog/IntList", "toArray", "()[I"⟩ : MethodName) prog_11_method_7_code 1 (some (.array .int)) :: ws) ({ frames := 2, cells := 1, slots := 0, locals := 32 } : Room)) (fun as_ U => as_ = #[(.ref a)] ∧ Z.Warmed39 U.vm ∧ U.heap = h0) (fun _ _ _ _ _ => True) (fun _ U o U' => ∃ rv_ L_, o = .returned rv_ ∧ Q_toarr_0 Z a b k h0 n0 rv_ U'.heap L_ ∧ FrameEnd U o U' L_ ({ frames := 2, cells := 1, slots := 0, locals := 32 } : Room).cells ({ frames := 2, cells := 1, slots := 0, locals := 32 } : Room).slots) := by
  refine MetFree.of_bodySF (plainFor_of_name own_pn_com_example_usnea_usnea_datalog_IntList) hisR ?_
  intro p e s m args below meth c s₁ Bd hml0 hP hK
  obtain ⟨rfl, hZ, hh⟩ := hP
  have hx := Bd.exec
  have hby := Bd.bytes
  have hml : c.maxLocals = 1 := hml0
  have hown : s.vm.findClass "com/example/usnea/usnea/datalog/IntList" = some m.cls := findClass_of_methodNamed Bd.named
  have hnm := (name_of_methodNamed Bd.named Bd.method).1
  have X0 : Stand p l e ({ frames := 2, cells := 1, slots := 0, locals := 32 } : Room) s m #[(.ref a)] below meth c s₁ [] 0 0 := Stand.of_body Bd
  have e0 : s₁.heap = h0 := by rw [← hh, Bd.state]; rfl
  have N0 := Fr.nil n0
  refine own_Goes.of ?_
  refine own_Goes.nm (fun P hPP => ?_)
  refine own_Goes.st ?_ (fun _ k => castTop (own_ef_toarr_0 m a) k)
  have K0 : Keep h0 h0 [] := Keep.refl _ _
  show own_Goes p.tables e below P (s₁.setTop (mkF m 0 #[.val (.ref a)] []))
  refine own_Goes.st ?_ (fun _ k => XS.aloadN X0.here hx rfl (hb hby own_d_prog_11_method_7_0) rfl rfl k)
  show own_Goes p.tables e below P (s₁.setTop (mkF m 1 #[.val (.ref a)] [(.ref a)]))
  obtain ⟨T1, X1, e1, st1⟩ := getF X0 hx hZ hown (host := "") (Or.inl (hw _ (List.mem_of_getElem? (i := 12) rfl))) Via.refl e0 pr0 (g := (mkF m 1 #[.val (.ref a)] [(.ref a)])) rfl rfl (hb hby own_d_prog_11_method_7_1)
  refine own_Goes.st ?_ st1
  show own_Goes p.tables e below P (T1.setTop (mkF m 4 #[.val (.ref a)] [(.ref b)]))
  refine own_Goes.st ?_ (fun _ k => XS.aloadN X1.here hx rfl (hb hby own_d_prog_11_method_7_4) rfl rfl k)
  show own_Goes p.tables e below P (T1.setTop (mkF m 5 #[.val (.ref a)] [(.ref a), (.ref b)]))
  obtain ⟨T2, X2, e2, st2⟩ := getF X1 hx hZ hown (host := "") (Or.inl (hw _ (List.mem_of_getElem? (i := 19) rfl))) Via.refl e1 pr1 (g := (mkF m 5 #[.val (.ref a)] [(.ref a), (.ref b)])) rfl rfl (hb hby own_d_prog_11_method_7_5)
  refine own_Goes.st ?_ st2
  show own_Goes p.tables e below P (T2.setTop (mkF m 8 #[.val (.ref a)] [(.int (0 : Int32)), (.ref b)]))
  obtain ⟨_, _, ⟨T3, L3, k3, n3⟩, -, X3, ⟨Lc3, hQ3, l3, y3, z3⟩, st3⟩ := Jvm.LawKit.callS X2 hx (y := (⟨"java/util/Arrays", "copyOf", "([II)[I"⟩ : MethodName)) hown (mvT hZ (hw _ (List.mem_of_getElem? (i := 26) rfl))) (mvT hZ (hw _ (List.mem_of_getElem? (i := 27) rfl))) (mvT hZ (hw _ (List.mem_of_getElem? (i := 28) rfl))) (mvT hZ (hw _ (List.mem_of_getElem? (i := 29) rfl))) (by decide) (backOf (W := 0) (rm_copy_0_4_0 l Z a0 hw [] b k h0 n0 Z0 pr2 pr3) hZ (hw _ (List.mem_of_getElem? (i := 29) rfl)) (hw _ (List.mem_of_getElem? (i := 28) rfl)) (by decide) (by decide)) (g := (mkF m 8 #[.val (.ref a)] [(.int (0 : Int32)), (.ref b)])) rfl (by rw [hml]; rfl) (argsL := [(.ref b), (.int (0 : Int32))]) (rest := []) (lenOf own_pd__28__5b_II_29__5b_I rfl) rfl (by show 2 * 0 + _ ≤ _; exact Nat.le_of_eq rfl) (hb hby own_d_prog_11_method_7_8) (fun _ _ => ⟨rfl, e2, (by decide : 0 + 1 ≤ _), (by decide : 0 + 0 ≤ _)⟩)
  dsimp only [Pt.U, Pt.locs, Pt.cells, Pt.slots] at X3 l3 y3 z3 st3 hQ3
  rw [l3, y3, z3] at X3
  obtain ⟨r3, q3, rfl, Nq3, K3, f4, f5, f6⟩ := hQ3
  have N3 := Fr.app N0 Nq3
  refine own_Goes.st ?_ st3
  have ne7 : a ≠ r3 := Nat.ne_of_lt (Nat.lt_of_lt_of_le pr0.lt f4)
  have ne8 : b ≠ r3 := Nat.ne_of_lt (Nat.lt_of_lt_of_le pr2.lt f4)
  have ge_r3 : n0 ≤ r3 := Nat.le_trans Z0 f4
  have sz_r3 : h0.size ≤ r3 := Nat.le_trans K0.1 f4
  have Z9 : n0 ≤ T3.heap.size := Nat.le_trans Z0 K3.1
  have K10 := K0.trans K3 all0
  show own_Goes p.tables e below P (T3.setTop (mkF m 11 #[.val (.ref a)] [(.ref r3)]))
  obtain ⟨fs, hr, hrun, hended, hW, hsame⟩ := X3.leave (v := some (.ref r3)) (fun h => by rw [Bd.returns] at h; cases h)
  exact own_Goes.fin _ _ (retOut X3 hx (t := (.array .int)) Bd.returns rfl (Or.inr (Or.inr (Or.inr (Or.inr ⟨rfl, rfl, rfl⟩)))) (hb hby own_d_prog_11_method_7_11) hr) (hPP _ _ ⟨hrun, hended, _, _, rfl, (by show Q_toarr_0 Z a b k h0 n0 _ T3.heap _; exact ⟨r3, q3, rfl, N3, K10, sz_r3, f5⟩), ⟨_, rfl⟩, hW, hsame.mono (by decide) (by decide)⟩)
theorem own_ef_toarr_1 (m : MethodId) (x0 : Addr) : entryFrame m #[(.ref x0)] 1 = mkF m 0 #[.val (.ref x0)] [] := by first | (simp [entryFrame, mkF, argsToLocals, Value.category]; done) | rfl
def Q_toarr_1 (Z : State) (a : Addr) (b : Addr) (k : ClassId) (x0 : Int32) (h0 : Heap) (n0 : Nat) (rv_ : Option Value) (h_ : Heap) (L_ : List Loc) : Prop := ∃ (r : Addr) (q : ClassId), rv_ = some (.ref r) ∧ Fr n0 L_ ∧ Keep h0 h_ [] ∧ (h0.size ≤ r) ∧ (Arv Z h_ r q .int (1 : Int32) [(.int x0)] (.int 0))
set_option maxRecDepth 65536 in
set_option maxHeartbeats 40000000 in
theorem rm_toarr_1 (l : Launch) (Z : State) (a0 : Array Value) (hw : ∀ d ∈ tables_1, d.before a0 Z = true) (ws : List Jvm.Cond) (a : Addr) (b : Addr) (k : ClassId) (x0 : Int32) (h0 : Heap) (n0 : Nat) (Z0 : n0 ≤ h0.size) (pr0 : Fld Z h0 a "com/example/usnea/usnea/datalog/IntList" "values" "[I" (.ref b)) (pr1 : Fld Z h0 a "com/example/usnea/usnea/datalog/IntList" "size" "I" (.int (1 : Int32))) (pr2 : Arv Z h0 b k .int (4 : Int32) [(.int x0), (.int (0 : Int32)), (.int (0 : Int32)), (.int (0 : Int32))] (.int 0)) (pr3 : Exa Z h0 b "[I") :
    MetFree l (⟨"com/example/usnea/usnea/datalog/IntList", "toArray", "()[I"⟩ : MethodName) (head1 (Jvm.Cond.code (⟨"com/example/usnea/usnea/datalog/IntList", "toArray", "()[I"⟩ : MethodName) prog_11_method_7_code 1 (some (.array .int)) :: ws) ({ frames := 2, cells := 1, slots := 1, locals := 32 } : Room)) (fun as_ U => as_ = #[(.ref a)] ∧ Z.Warmed39 U.vm ∧ U.heap = h0) (fun _ _ _ _ _ => True) (fun _ U o U' => ∃ rv_ L_, o = .returned rv_ ∧ Q_toarr_1 Z a b k x0 h0 n0 rv_ U'.heap L_ ∧ FrameEnd U o U' L_ ({ frames := 2, cells := 1, slots := 1, locals := 32 } : Room).cells ({ frames := 2, cells := 1, slots := 1, locals := 32 } : Room).slots) := by
  refine MetFree.of_bodySF (plainFor_of_name own_pn_com_example_usnea_usnea_datalog_IntList) hisR ?_
  intro p e s m args below meth c s₁ Bd hml0 hP hK
  obtain ⟨rfl, hZ, hh⟩ := hP
  have hx := Bd.exec
  have hby := Bd.bytes
  have hml : c.maxLocals = 1 := hml0
  have hown : s.vm.findClass "com/example/usnea/usnea/datalog/IntList" = some m.cls := findClass_of_methodNamed Bd.named
  have hnm := (name_of_methodNamed Bd.named Bd.method).1
  have X0 : Stand p l e ({ frames := 2, cells := 1, slots := 1, locals := 32 } : Room) s m #[(.ref a)] below meth c s₁ [] 0 0 := Stand.of_body Bd
  have e0 : s₁.heap = h0 := by rw [← hh, Bd.state]; rfl
  have N0 := Fr.nil n0
  refine own_Goes.of ?_
  refine own_Goes.nm (fun P hPP => ?_)
  refine own_Goes.st ?_ (fun _ k => castTop (own_ef_toarr_1 m a) k)
  have K0 : Keep h0 h0 [] := Keep.refl _ _
  show own_Goes p.tables e below P (s₁.setTop (mkF m 0 #[.val (.ref a)] []))
  refine own_Goes.st ?_ (fun _ k => XS.aloadN X0.here hx rfl (hb hby own_d_prog_11_method_7_0) rfl rfl k)
  show own_Goes p.tables e below P (s₁.setTop (mkF m 1 #[.val (.ref a)] [(.ref a)]))
  obtain ⟨T1, X1, e1, st1⟩ := getF X0 hx hZ hown (host := "") (Or.inl (hw _ (List.mem_of_getElem? (i := 12) rfl))) Via.refl e0 pr0 (g := (mkF m 1 #[.val (.ref a)] [(.ref a)])) rfl rfl (hb hby own_d_prog_11_method_7_1)
  refine own_Goes.st ?_ st1
  show own_Goes p.tables e below P (T1.setTop (mkF m 4 #[.val (.ref a)] [(.ref b)]))
  refine own_Goes.st ?_ (fun _ k => XS.aloadN X1.here hx rfl (hb hby own_d_prog_11_method_7_4) rfl rfl k)
  show own_Goes p.tables e below P (T1.setTop (mkF m 5 #[.val (.ref a)] [(.ref a), (.ref b)]))
  obtain ⟨T2, X2, e2, st2⟩ := getF X1 hx hZ hown (host := "") (Or.inl (hw _ (List.mem_of_getElem? (i := 19) rfl))) Via.refl e1 pr1 (g := (mkF m 5 #[.val (.ref a)] [(.ref a), (.ref b)])) rfl rfl (hb hby own_d_prog_11_method_7_5)
  refine own_Goes.st ?_ st2
  show own_Goes p.tables e below P (T2.setTop (mkF m 8 #[.val (.ref a)] [(.int (1 : Int32)), (.ref b)]))
  obtain ⟨_, _, ⟨T3, L3, k3, n3⟩, -, X3, ⟨Lc3, hQ3, l3, y3, z3⟩, st3⟩ := Jvm.LawKit.callS X2 hx (y := (⟨"java/util/Arrays", "copyOf", "([II)[I"⟩ : MethodName)) hown (mvT hZ (hw _ (List.mem_of_getElem? (i := 26) rfl))) (mvT hZ (hw _ (List.mem_of_getElem? (i := 27) rfl))) (mvT hZ (hw _ (List.mem_of_getElem? (i := 28) rfl))) (mvT hZ (hw _ (List.mem_of_getElem? (i := 29) rfl))) (by decide) (backOf (W := 0) (rm_copy_1_4_1 l Z a0 hw [] b k x0 h0 n0 Z0 pr2 pr3) hZ (hw _ (List.mem_of_getElem? (i := 29) rfl)) (hw _ (List.mem_of_getElem? (i := 28) rfl)) (by decide) (by decide)) (g := (mkF m 8 #[.val (.ref a)] [(.int (1 : Int32)), (.ref b)])) rfl (by rw [hml]; rfl) (argsL := [(.ref b), (.int (1 : Int32))]) (rest := []) (lenOf own_pd__28__5b_II_29__5b_I rfl) rfl (by show 2 * 0 + _ ≤ _; exact Nat.le_of_eq rfl) (hb hby own_d_prog_11_method_7_8) (fun _ _ => ⟨rfl, e2, (by decide : 0 + 1 ≤ _), (by decide : 0 + 1 ≤ _)⟩)
  dsimp only [Pt.U, Pt.locs, Pt.cells, Pt.slots] at X3 l3 y3 z3 st3 hQ3
  rw [l3, y3, z3] at X3
  obtain ⟨r3, q3, rfl, Nq3, K3, f4, f5, f6⟩ := hQ3
  have N3 := Fr.app N0 Nq3
  refine own_Goes.st ?_ st3
  have ne7 : a ≠ r3 := Nat.ne_of_lt (Nat.lt_of_lt_of_le pr0.lt f4)
  have ne8 : b ≠ r3 := Nat.ne_of_lt (Nat.lt_of_lt_of_le pr2.lt f4)
  have ge_r3 : n0 ≤ r3 := Nat.le_trans Z0 f4
  have sz_r3 : h0.size ≤ r3 := Nat.le_trans K0.1 f4
  have Z9 : n0 ≤ T3.heap.size := Nat.le_trans Z0 K3.1
  have K10 := K0.trans K3 all0
  show own_Goes p.tables e below P (T3.setTop (mkF m 11 #[.val (.ref a)] [(.ref r3)]))
  obtain ⟨fs, hr, hrun, hended, hW, hsame⟩ := X3.leave (v := some (.ref r3)) (fun h => by rw [Bd.returns] at h; cases h)
  exact own_Goes.fin _ _ (retOut X3 hx (t := (.array .int)) Bd.returns rfl (Or.inr (Or.inr (Or.inr (Or.inr ⟨rfl, rfl, rfl⟩)))) (hb hby own_d_prog_11_method_7_11) hr) (hPP _ _ ⟨hrun, hended, _, _, rfl, (by show Q_toarr_1 Z a b k x0 h0 n0 _ T3.heap _; exact ⟨r3, q3, rfl, N3, K10, sz_r3, f5⟩), ⟨_, rfl⟩, hW, hsame.mono (by decide) (by decide)⟩)
theorem own_ef_toarr_2 (m : MethodId) (x0 : Addr) : entryFrame m #[(.ref x0)] 1 = mkF m 0 #[.val (.ref x0)] [] := by first | (simp [entryFrame, mkF, argsToLocals, Value.category]; done) | rfl
def Q_toarr_2 (Z : State) (a : Addr) (b : Addr) (k : ClassId) (x0 : Int32) (x1 : Int32) (h0 : Heap) (n0 : Nat) (rv_ : Option Value) (h_ : Heap) (L_ : List Loc) : Prop := ∃ (r : Addr) (q : ClassId), rv_ = some (.ref r) ∧ Fr n0 L_ ∧ Keep h0 h_ [] ∧ (h0.size ≤ r) ∧ (Arv Z h_ r q .int (2 : Int32) [(.int x0), (.int x1)] (.int 0))
set_option maxRecDepth 65536 in
set_option maxHeartbeats 40000000 in
theorem rm_toarr_2 (l : Launch) (Z : State) (a0 : Array Value) (hw : ∀ d ∈ tables_1, d.before a0 Z = true) (ws : List Jvm.Cond) (a : Addr) (b : Addr) (k : ClassId) (x0 : Int32) (x1 : Int32) (h0 : Heap) (n0 : Nat) (Z0 : n0 ≤ h0.size) (pr0 : Fld Z h0 a "com/example/usnea/usnea/datalog/IntList" "values" "[I" (.ref b)) (pr1 : Fld Z h0 a "com/example/usnea/usnea/datalog/IntList" "size" "I" (.int (2 : Int32))) (pr2 : Arv Z h0 b k .int (4 : Int32) [(.int x0), (.int x1), (.int (0 : Int32)), (.int (0 : Int32))] (.int 0)) (pr3 : Exa Z h0 b "[I") :
    MetFree l (⟨"com/example/usnea/usnea/datalog/IntList", "toArray", "()[I"⟩ : MethodName) (head1 (Jvm.Cond.code (⟨"com/example/usnea/usnea/datalog/IntList", "toArray", "()[I"⟩ : MethodName) prog_11_method_7_code 1 (some (.array .int)) :: ws) ({ frames := 2, cells := 1, slots := 2, locals := 32 } : Room)) (fun as_ U => as_ = #[(.ref a)] ∧ Z.Warmed39 U.vm ∧ U.heap = h0) (fun _ _ _ _ _ => True) (fun _ U o U' => ∃ rv_ L_, o = .returned rv_ ∧ Q_toarr_2 Z a b k x0 x1 h0 n0 rv_ U'.heap L_ ∧ FrameEnd U o U' L_ ({ frames := 2, cells := 1, slots := 2, locals := 32 } : Room).cells ({ frames := 2, cells := 1, slots := 2, locals := 32 } : Room).slots) := by
  refine MetFree.of_bodySF (plainFor_of_name own_pn_com_example_usnea_usnea_datalog_IntList) hisR ?_
  intro p e s m args below meth c s₁ Bd hml0 hP hK
  obtain ⟨rfl, hZ, hh⟩ := hP
  have hx := Bd.exec
  have hby := Bd.bytes
  have hml : c.maxLocals = 1 := hml0
  have hown : s.vm.findClass "com/example/usnea/usnea/datalog/IntList" = some m.cls := findClass_of_methodNamed Bd.named
  have hnm := (name_of_methodNamed Bd.named Bd.method).1
  have X0 : Stand p l e ({ frames := 2, cells := 1, slots := 2, locals := 32 } : Room) s m #[(.ref a)] below meth c s₁ [] 0 0 := Stand.of_body Bd
  have e0 : s₁.heap = h0 := by rw [← hh, Bd.state]; rfl
  have N0 := Fr.nil n0
  refine own_Goes.of ?_
  refine own_Goes.nm (fun P hPP => ?_)
  refine own_Goes.st ?_ (fun _ k => castTop (own_ef_toarr_2 m a) k)
  have K0 : Keep h0 h0 [] := Keep.refl _ _
  show own_Goes p.tables e below P (s₁.setTop (mkF m 0 #[.val (.ref a)] []))
  refine own_Goes.st ?_ (fun _ k => XS.aloadN X0.here hx rfl (hb hby own_d_prog_11_method_7_0) rfl rfl k)
  show own_Goes p.tables e below P (s₁.setTop (mkF m 1 #[.val (.ref a)] [(.ref a)]))
  obtain ⟨T1, X1, e1, st1⟩ := getF X0 hx hZ hown (host := "") (Or.inl (hw _ (List.mem_of_getElem? (i := 12) rfl))) Via.refl e0 pr0 (g := (mkF m 1 #[.val (.ref a)] [(.ref a)])) rfl rfl (hb hby own_d_prog_11_method_7_1)
  refine own_Goes.st ?_ st1
  show own_Goes p.tables e below P (T1.setTop (mkF m 4 #[.val (.ref a)] [(.ref b)]))
  refine own_Goes.st ?_ (fun _ k => XS.aloadN X1.here hx rfl (hb hby own_d_prog_11_method_7_4) rfl rfl k)
  show own_Goes p.tables e below P (T1.setTop (mkF m 5 #[.val (.ref a)] [(.ref a), (.ref b)]))
  obtain ⟨T2, X2, e2, st2⟩ := getF X1 hx hZ hown (host := "") (Or.inl (hw _ (List.mem_of_getElem? (i := 19) rfl))) Via.refl e1 pr1 (g := (mkF m 5 #[.val (.ref a)] [(.ref a), (.ref b)])) rfl rfl (hb hby own_d_prog_11_method_7_5)
  refine own_Goes.st ?_ st2
  show own_Goes p.tables e below P (T2.setTop (mkF m 8 #[.val (.ref a)] [(.int (2 : Int32)), (.ref b)]))
  obtain ⟨_, _, ⟨T3, L3, k3, n3⟩, -, X3, ⟨Lc3, hQ3, l3, y3, z3⟩, st3⟩ := Jvm.LawKit.callS X2 hx (y := (⟨"java/util/Arrays", "copyOf", "([II)[I"⟩ : MethodName)) hown (mvT hZ (hw _ (List.mem_of_getElem? (i := 26) rfl))) (mvT hZ (hw _ (List.mem_of_getElem? (i := 27) rfl))) (mvT hZ (hw _ (List.mem_of_getElem? (i := 28) rfl))) (mvT hZ (hw _ (List.mem_of_getElem? (i := 29) rfl))) (by decide) (backOf (W := 0) (rm_copy_2_4_2 l Z a0 hw [] b k x0 x1 h0 n0 Z0 pr2 pr3) hZ (hw _ (List.mem_of_getElem? (i := 29) rfl)) (hw _ (List.mem_of_getElem? (i := 28) rfl)) (by decide) (by decide)) (g := (mkF m 8 #[.val (.ref a)] [(.int (2 : Int32)), (.ref b)])) rfl (by rw [hml]; rfl) (argsL := [(.ref b), (.int (2 : Int32))]) (rest := []) (lenOf own_pd__28__5b_II_29__5b_I rfl) rfl (by show 2 * 0 + _ ≤ _; exact Nat.le_of_eq rfl) (hb hby own_d_prog_11_method_7_8) (fun _ _ => ⟨rfl, e2, (by decide : 0 + 1 ≤ _), (by decide : 0 + 2 ≤ _)⟩)
  dsimp only [Pt.U, Pt.locs, Pt.cells, Pt.slots] at X3 l3 y3 z3 st3 hQ3
  rw [l3, y3, z3] at X3
  obtain ⟨r3, q3, rfl, Nq3, K3, f4, f5, f6⟩ := hQ3
  have N3 := Fr.app N0 Nq3
  refine own_Goes.st ?_ st3
  have ne7 : a ≠ r3 := Nat.ne_of_lt (Nat.lt_of_lt_of_le pr0.lt f4)
  have ne8 : b ≠ r3 := Nat.ne_of_lt (Nat.lt_of_lt_of_le pr2.lt f4)
  have ge_r3 : n0 ≤ r3 := Nat.le_trans Z0 f4
  have sz_r3 : h0.size ≤ r3 := Nat.le_trans K0.1 f4
  have Z9 : n0 ≤ T3.heap.size := Nat.le_trans Z0 K3.1
  have K10 := K0.trans K3 all0
  show own_Goes p.tables e below P (T3.setTop (mkF m 11 #[.val (.ref a)] [(.ref r3)]))
  obtain ⟨fs, hr, hrun, hended, hW, hsame⟩ := X3.leave (v := some (.ref r3)) (fun h => by rw [Bd.returns] at h; cases h)
  exact own_Goes.fin _ _ (retOut X3 hx (t := (.array .int)) Bd.returns rfl (Or.inr (Or.inr (Or.inr (Or.inr ⟨rfl, rfl, rfl⟩)))) (hb hby own_d_prog_11_method_7_11) hr) (hPP _ _ ⟨hrun, hended, _, _, rfl, (by show Q_toarr_2 Z a b k x0 x1 h0 n0 _ T3.heap _; exact ⟨r3, q3, rfl, N3, K10, sz_r3, f5⟩), ⟨_, rfl⟩, hW, hsame.mono (by decide) (by decide)⟩)
theorem own_ef_toarr_3 (m : MethodId) (x0 : Addr) : entryFrame m #[(.ref x0)] 1 = mkF m 0 #[.val (.ref x0)] [] := by first | (simp [entryFrame, mkF, argsToLocals, Value.category]; done) | rfl
def Q_toarr_3 (Z : State) (a : Addr) (b : Addr) (k : ClassId) (x0 : Int32) (x1 : Int32) (x2 : Int32) (h0 : Heap) (n0 : Nat) (rv_ : Option Value) (h_ : Heap) (L_ : List Loc) : Prop := ∃ (r : Addr) (q : ClassId), rv_ = some (.ref r) ∧ Fr n0 L_ ∧ Keep h0 h_ [] ∧ (h0.size ≤ r) ∧ (Arv Z h_ r q .int (3 : Int32) [(.int x0), (.int x1), (.int x2)] (.int 0))
set_option maxRecDepth 65536 in
set_option maxHeartbeats 40000000 in
theorem rm_toarr_3 (l : Launch) (Z : State) (a0 : Array Value) (hw : ∀ d ∈ tables_1, d.before a0 Z = true) (ws : List Jvm.Cond) (a : Addr) (b : Addr) (k : ClassId) (x0 : Int32) (x1 : Int32) (x2 : Int32) (h0 : Heap) (n0 : Nat) (Z0 : n0 ≤ h0.size) (pr0 : Fld Z h0 a "com/example/usnea/usnea/datalog/IntList" "values" "[I" (.ref b)) (pr1 : Fld Z h0 a "com/example/usnea/usnea/datalog/IntList" "size" "I" (.int (3 : Int32))) (pr2 : Arv Z h0 b k .int (4 : Int32) [(.int x0), (.int x1), (.int x2), (.int (0 : Int32))] (.int 0)) (pr3 : Exa Z h0 b "[I") :
    MetFree l (⟨"com/example/usnea/usnea/datalog/IntList", "toArray", "()[I"⟩ : MethodName) (head1 (Jvm.Cond.code (⟨"com/example/usnea/usnea/datalog/IntList", "toArray", "()[I"⟩ : MethodName) prog_11_method_7_code 1 (some (.array .int)) :: ws) ({ frames := 2, cells := 1, slots := 3, locals := 32 } : Room)) (fun as_ U => as_ = #[(.ref a)] ∧ Z.Warmed39 U.vm ∧ U.heap = h0) (fun _ _ _ _ _ => True) (fun _ U o U' => ∃ rv_ L_, o = .returned rv_ ∧ Q_toarr_3 Z a b k x0 x1 x2 h0 n0 rv_ U'.heap L_ ∧ FrameEnd U o U' L_ ({ frames := 2, cells := 1, slots := 3, locals := 32 } : Room).cells ({ frames := 2, cells := 1, slots := 3, locals := 32 } : Room).slots) := by
  refine MetFree.of_bodySF (plainFor_of_name own_pn_com_example_usnea_usnea_datalog_IntList) hisR ?_
  intro p e s m args below meth c s₁ Bd hml0 hP hK
  obtain ⟨rfl, hZ, hh⟩ := hP
  have hx := Bd.exec
  have hby := Bd.bytes
  have hml : c.maxLocals = 1 := hml0
  have hown : s.vm.findClass "com/example/usnea/usnea/datalog/IntList" = some m.cls := findClass_of_methodNamed Bd.named
  have hnm := (name_of_methodNamed Bd.named Bd.method).1
  have X0 : Stand p l e ({ frames := 2, cells := 1, slots := 3, locals := 32 } : Room) s m #[(.ref a)] below meth c s₁ [] 0 0 := Stand.of_body Bd
  have e0 : s₁.heap = h0 := by rw [← hh, Bd.state]; rfl
  have N0 := Fr.nil n0
  refine own_Goes.of ?_
  refine own_Goes.nm (fun P hPP => ?_)
  refine own_Goes.st ?_ (fun _ k => castTop (own_ef_toarr_3 m a) k)
  have K0 : Keep h0 h0 [] := Keep.refl _ _
  show own_Goes p.tables e below P (s₁.setTop (mkF m 0 #[.val (.ref a)] []))
  refine own_Goes.st ?_ (fun _ k => XS.aloadN X0.here hx rfl (hb hby own_d_prog_11_method_7_0) rfl rfl k)
  show own_Goes p.tables e below P (s₁.setTop (mkF m 1 #[.val (.ref a)] [(.ref a)]))
  obtain ⟨T1, X1, e1, st1⟩ := getF X0 hx hZ hown (host := "") (Or.inl (hw _ (List.mem_of_getElem? (i := 12) rfl))) Via.refl e0 pr0 (g := (mkF m 1 #[.val (.ref a)] [(.ref a)])) rfl rfl (hb hby own_d_prog_11_method_7_1)
  refine own_Goes.st ?_ st1
  show own_Goes p.tables e below P (T1.setTop (mkF m 4 #[.val (.ref a)] [(.ref b)]))
  refine own_Goes.st ?_ (fun _ k => XS.aloadN X1.here hx rfl (hb hby own_d_prog_11_method_7_4) rfl rfl k)
  show own_Goes p.tables e below P (T1.setTop (mkF m 5 #[.val (.ref a)] [(.ref a), (.ref b)]))
  obtain ⟨T2, X2, e2, st2⟩ := getF X1 hx hZ hown (host := "") (Or.inl (hw _ (List.mem_of_getElem? (i := 19) rfl))) Via.refl e1 pr1 (g := (mkF m 5 #[.val (.ref a)] [(.ref a), (.ref b)])) rfl rfl (hb hby own_d_prog_11_method_7_5)
  refine own_Goes.st ?_ st2
  show own_Goes p.tables e below P (T2.setTop (mkF m 8 #[.val (.ref a)] [(.int (3 : Int32)), (.ref b)]))
  obtain ⟨_, _, ⟨T3, L3, k3, n3⟩, -, X3, ⟨Lc3, hQ3, l3, y3, z3⟩, st3⟩ := Jvm.LawKit.callS X2 hx (y := (⟨"java/util/Arrays", "copyOf", "([II)[I"⟩ : MethodName)) hown (mvT hZ (hw _ (List.mem_of_getElem? (i := 26) rfl))) (mvT hZ (hw _ (List.mem_of_getElem? (i := 27) rfl))) (mvT hZ (hw _ (List.mem_of_getElem? (i := 28) rfl))) (mvT hZ (hw _ (List.mem_of_getElem? (i := 29) rfl))) (by decide) (backOf (W := 0) (rm_copy_3_4_3 l Z a0 hw [] b k x0 x1 x2 h0 n0 Z0 pr2 pr3) hZ (hw _ (List.mem_of_getElem? (i := 29) rfl)) (hw _ (List.mem_of_getElem? (i := 28) rfl)) (by decide) (by decide)) (g := (mkF m 8 #[.val (.ref a)] [(.int (3 : Int32)), (.ref b)])) rfl (by rw [hml]; rfl) (argsL := [(.ref b), (.int (3 : Int32))]) (rest := []) (lenOf own_pd__28__5b_II_29__5b_I rfl) rfl (by show 2 * 0 + _ ≤ _; exact Nat.le_of_eq rfl) (hb hby own_d_prog_11_method_7_8) (fun _ _ => ⟨rfl, e2, (by decide : 0 + 1 ≤ _), (by decide : 0 + 3 ≤ _)⟩)
  dsimp only [Pt.U, Pt.locs, Pt.cells, Pt.slots] at X3 l3 y3 z3 st3 hQ3
  rw [l3, y3, z3] at X3
  obtain ⟨r3, q3, rfl, Nq3, K3, f4, f5, f6⟩ := hQ3
  have N3 := Fr.app N0 Nq3
  refine own_Goes.st ?_ st3
  have ne7 : a ≠ r3 := Nat.ne_of_lt (Nat.lt_of_lt_of_le pr0.lt f4)
  have ne8 : b ≠ r3 := Nat.ne_of_lt (Nat.lt_of_lt_of_le pr2.lt f4)
  have ge_r3 : n0 ≤ r3 := Nat.le_trans Z0 f4
  have sz_r3 : h0.size ≤ r3 := Nat.le_trans K0.1 f4
  have Z9 : n0 ≤ T3.heap.size := Nat.le_trans Z0 K3.1
  have K10 := K0.trans K3 all0
  show own_Goes p.tables e below P (T3.setTop (mkF m 11 #[.val (.ref a)] [(.ref r3)]))
  obtain ⟨fs, hr, hrun, hended, hW, hsame⟩ := X3.leave (v := some (.ref r3)) (fun h => by rw [Bd.returns] at h; cases h)
  exact own_Goes.fin _ _ (retOut X3 hx (t := (.array .int)) Bd.returns rfl (Or.inr (Or.inr (Or.inr (Or.inr ⟨rfl, rfl, rfl⟩)))) (hb hby own_d_prog_11_method_7_11) hr) (hPP _ _ ⟨hrun, hended, _, _, rfl, (by show Q_toarr_3 Z a b k x0 x1 x2 h0 n0 _ T3.heap _; exact ⟨r3, q3, rfl, N3, K10, sz_r3, f5⟩), ⟨_, rfl⟩, hW, hsame.mono (by decide) (by decide)⟩)
theorem own_ef_toarr_4 (m : MethodId) (x0 : Addr) : entryFrame m #[(.ref x0)] 1 = mkF m 0 #[.val (.ref x0)] [] := by first | (simp [entryFrame, mkF, argsToLocals, Value.category]; done) | rfl
def Q_toarr_4 (Z : State) (a : Addr) (b : Addr) (k : ClassId) (x0 : Int32) (x1 : Int32) (x2 : Int32) (x3 : Int32) (h0 : Heap) (n0 : Nat) (rv_ : Option Value) (h_ : Heap) (L_ : List Loc) : Prop := ∃ (r : Addr) (q : ClassId), rv_ = some (.ref r) ∧ Fr n0 L_ ∧ Keep h0 h_ [] ∧ (h0.size ≤ r) ∧ (Arv Z h_ r q .int (4 : Int32) [(.int x0), (.int x1), (.int x2), (.int x3)] (.int 0))
set_option maxRecDepth 65536 in
set_option maxHeartbeats 40000000 in
theorem rm_toarr_4 (l : Launch) (Z : State) (a0 : Array Value) (hw : ∀ d ∈ tables_1, d.before a0 Z = true) (ws : List Jvm.Cond) (a : Addr) (b : Addr) (k : ClassId) (x0 : Int32) (x1 : Int32) (x2 : Int32) (x3 : Int32) (h0 : Heap) (n0 : Nat) (Z0 : n0 ≤ h0.size) (pr0 : Fld Z h0 a "com/example/usnea/usnea/datalog/IntList" "values" "[I" (.ref b)) (pr1 : Fld Z h0 a "com/example/usnea/usnea/datalog/IntList" "size" "I" (.int (4 : Int32))) (pr2 : Arv Z h0 b k .int (4 : Int32) [(.int x0), (.int x1), (.int x2), (.int x3)] (.int 0)) (pr3 : Exa Z h0 b "[I") :
    MetFree l (⟨"com/example/usnea/usnea/datalog/IntList", "toArray", "()[I"⟩ : MethodName) (head1 (Jvm.Cond.code (⟨"com/example/usnea/usnea/datalog/IntList", "toArray", "()[I"⟩ : MethodName) prog_11_method_7_code 1 (some (.array .int)) :: ws) ({ frames := 2, cells := 1, slots := 4, locals := 28 } : Room)) (fun as_ U => as_ = #[(.ref a)] ∧ Z.Warmed39 U.vm ∧ U.heap = h0) (fun _ _ _ _ _ => True) (fun _ U o U' => ∃ rv_ L_, o = .returned rv_ ∧ Q_toarr_4 Z a b k x0 x1 x2 x3 h0 n0 rv_ U'.heap L_ ∧ FrameEnd U o U' L_ ({ frames := 2, cells := 1, slots := 4, locals := 28 } : Room).cells ({ frames := 2, cells := 1, slots := 4, locals := 28 } : Room).slots) := by
  refine MetFree.of_bodySF (plainFor_of_name own_pn_com_example_usnea_usnea_datalog_IntList) hisR ?_
  intro p e s m args below meth c s₁ Bd hml0 hP hK
  obtain ⟨rfl, hZ, hh⟩ := hP
  have hx := Bd.exec
  have hby := Bd.bytes
  have hml : c.maxLocals = 1 := hml0
  have hown : s.vm.findClass "com/example/usnea/usnea/datalog/IntList" = some m.cls := findClass_of_methodNamed Bd.named
  have hnm := (name_of_methodNamed Bd.named Bd.method).1
  have X0 : Stand p l e ({ frames := 2, cells := 1, slots := 4, locals := 28 } : Room) s m #[(.ref a)] below meth c s₁ [] 0 0 := Stand.of_body Bd
  have e0 : s₁.heap = h0 := by rw [← hh, Bd.state]; rfl
  have N0 := Fr.nil n0
  refine own_Goes.of ?_
  refine own_Goes.nm (fun P hPP => ?_)
  refine own_Goes.st ?_ (fun _ k => castTop (own_ef_toarr_4 m a) k)
  have K0 : Keep h0 h0 [] := Keep.refl _ _
  show own_Goes p.tables e below P (s₁.setTop (mkF m 0 #[.val (.ref a)] []))
  refine own_Goes.st ?_ (fun _ k => XS.aloadN X0.here hx rfl (hb hby own_d_prog_11_method_7_0) rfl rfl k)
  show own_Goes p.tables e below P (s₁.setTop (mkF m 1 #[.val (.ref a)] [(.ref a)]))
  obtain ⟨T1, X1, e1, st1⟩ := getF X0 hx hZ hown (host := "") (Or.inl (hw _ (List.mem_of_getElem? (i := 12) rfl))) Via.refl e0 pr0 (g := (mkF m 1 #[.val (.ref a)] [(.ref a)])) rfl rfl (hb hby own_d_prog_11_method_7_1)
  refine own_Goes.st ?_ st1
  show own_Goes p.tables e below P (T1.setTop (mkF m 4 #[.val (.ref a)] [(.ref b)]))
  refine own_Goes.st ?_ (fun _ k => XS.aloadN X1.here hx rfl (hb hby own_d_prog_11_method_7_4) rfl rfl k)
  show own_Goes p.tables e below P (T1.setTop (mkF m 5 #[.val (.ref a)] [(.ref a), (.ref b)]))
  obtain ⟨T2, X2, e2, st2⟩ := getF X1 hx hZ hown (host := "") (Or.inl (hw _ (List.mem_of_getElem? (i := 19) rfl))) Via.refl e1 pr1 (g := (mkF m 5 #[.val (.ref a)] [(.ref a), (.ref b)])) rfl rfl (hb hby own_d_prog_11_method_7_5)
  refine own_Goes.st ?_ st2
  show own_Goes p.tables e below P (T2.setTop (mkF m 8 #[.val (.ref a)] [(.int (4 : Int32)), (.ref b)]))
  obtain ⟨_, _, ⟨T3, L3, k3, n3⟩, -, X3, ⟨Lc3, hQ3, l3, y3, z3⟩, st3⟩ := Jvm.LawKit.callS X2 hx (y := (⟨"java/util/Arrays", "copyOf", "([II)[I"⟩ : MethodName)) hown (mvT hZ (hw _ (List.mem_of_getElem? (i := 26) rfl))) (mvT hZ (hw _ (List.mem_of_getElem? (i := 27) rfl))) (mvT hZ (hw _ (List.mem_of_getElem? (i := 28) rfl))) (mvT hZ (hw _ (List.mem_of_getElem? (i := 29) rfl))) (by decide) (backOf (W := 0) (rm_copy_4_4_4 l Z a0 hw [] b k x0 x1 x2 x3 h0 n0 Z0 pr2 pr3) hZ (hw _ (List.mem_of_getElem? (i := 29) rfl)) (hw _ (List.mem_of_getElem? (i := 28) rfl)) (by decide) (by decide)) (g := (mkF m 8 #[.val (.ref a)] [(.int (4 : Int32)), (.ref b)])) rfl (by rw [hml]; rfl) (argsL := [(.ref b), (.int (4 : Int32))]) (rest := []) (lenOf own_pd__28__5b_II_29__5b_I rfl) rfl (by show 2 * 0 + _ ≤ _; exact Nat.le_of_eq rfl) (hb hby own_d_prog_11_method_7_8) (fun _ _ => ⟨rfl, e2, (by decide : 0 + 1 ≤ _), (by decide : 0 + 4 ≤ _)⟩)
  dsimp only [Pt.U, Pt.locs, Pt.cells, Pt.slots] at X3 l3 y3 z3 st3 hQ3
  rw [l3, y3, z3] at X3
  obtain ⟨r3, q3, rfl, Nq3, K3, f4, f5, f6⟩ := hQ3
  have N3 := Fr.app N0 Nq3
  refine own_Goes.st ?_ st3
  have ne7 : a ≠ r3 := Nat.ne_of_lt (Nat.lt_of_lt_of_le pr0.lt f4)
  have ne8 : b ≠ r3 := Nat.ne_of_lt (Nat.lt_of_lt_of_le pr2.lt f4)
  have ge_r3 : n0 ≤ r3 := Nat.le_trans Z0 f4
  have sz_r3 : h0.size ≤ r3 := Nat.le_trans K0.1 f4
  have Z9 : n0 ≤ T3.heap.size := Nat.le_trans Z0 K3.1
  have K10 := K0.trans K3 all0
  show own_Goes p.tables e below P (T3.setTop (mkF m 11 #[.val (.ref a)] [(.ref r3)]))
  obtain ⟨fs, hr, hrun, hended, hW, hsame⟩ := X3.leave (v := some (.ref r3)) (fun h => by rw [Bd.returns] at h; cases h)
  exact own_Goes.fin _ _ (retOut X3 hx (t := (.array .int)) Bd.returns rfl (Or.inr (Or.inr (Or.inr (Or.inr ⟨rfl, rfl, rfl⟩)))) (hb hby own_d_prog_11_method_7_11) hr) (hPP _ _ ⟨hrun, hended, _, _, rfl, (by show Q_toarr_4 Z a b k x0 x1 x2 x3 h0 n0 _ T3.heap _; exact ⟨r3, q3, rfl, N3, K10, sz_r3, f5⟩), ⟨_, rfl⟩, hW, hsame.mono (by decide) (by decide)⟩)
theorem own_ef_toarr_5 (m : MethodId) (x0 : Addr) : entryFrame m #[(.ref x0)] 1 = mkF m 0 #[.val (.ref x0)] [] := by first | (simp [entryFrame, mkF, argsToLocals, Value.category]; done) | rfl
def Q_toarr_5 (Z : State) (a : Addr) (b : Addr) (k : ClassId) (x0 : Int32) (x1 : Int32) (x2 : Int32) (x3 : Int32) (x4 : Int32) (h0 : Heap) (n0 : Nat) (rv_ : Option Value) (h_ : Heap) (L_ : List Loc) : Prop := ∃ (r : Addr) (q : ClassId), rv_ = some (.ref r) ∧ Fr n0 L_ ∧ Keep h0 h_ [] ∧ (h0.size ≤ r) ∧ (Arv Z h_ r q .int (5 : Int32) [(.int x0), (.int x1), (.int x2), (.int x3), (.int x4)] (.int 0))
set_option maxRecDepth 65536 in
set_option maxHeartbeats 40000000 in
theorem rm_toarr_5 (l : Launch) (Z : State) (a0 : Array Value) (hw : ∀ d ∈ tables_1, d.before a0 Z = true) (ws : List Jvm.Cond) (a : Addr) (b : Addr) (k : ClassId) (x0 : Int32) (x1 : Int32) (x2 : Int32) (x3 : Int32) (x4 : Int32) (h0 : Heap) (n0 : Nat) (Z0 : n0 ≤ h0.size) (pr0 : Fld Z h0 a "com/example/usnea/usnea/datalog/IntList" "values" "[I" (.ref b)) (pr1 : Fld Z h0 a "com/example/usnea/usnea/datalog/IntList" "size" "I" (.int (5 : Int32))) (pr2 : Arv Z h0 b k .int (8 : Int32) [(.int x0), (.int x1), (.int x2), (.int x3), (.int x4), (.int (0 : Int32)), (.int (0 : Int32)), (.int (0 : Int32))] (.int 0)) (pr3 : Exa Z h0 b "[I") :
    MetFree l (⟨"com/example/usnea/usnea/datalog/IntList", "toArray", "()[I"⟩ : MethodName) (head1 (Jvm.Cond.code (⟨"com/example/usnea/usnea/datalog/IntList", "toArray", "()[I"⟩ : MethodName) prog_11_method_7_code 1 (some (.array .int)) :: ws) ({ frames := 2, cells := 1, slots := 5, locals := 32 } : Room)) (fun as_ U => as_ = #[(.ref a)] ∧ Z.Warmed39 U.vm ∧ U.heap = h0) (fun _ _ _ _ _ => True) (fun _ U o U' => ∃ rv_ L_, o = .returned rv_ ∧ Q_toarr_5 Z a b k x0 x1 x2 x3 x4 h0 n0 rv_ U'.heap L_ ∧ FrameEnd U o U' L_ ({ frames := 2, cells := 1, slots := 5, locals := 32 } : Room).cells ({ frames := 2, cells := 1, slots := 5, locals := 32 } : Room).slots) := by
  refine MetFree.of_bodySF (plainFor_of_name own_pn_com_example_usnea_usnea_datalog_IntList) hisR ?_
  intro p e s m args below meth c s₁ Bd hml0 hP hK
  obtain ⟨rfl, hZ, hh⟩ := hP
  have hx := Bd.exec
  have hby := Bd.bytes
  have hml : c.maxLocals = 1 := hml0
  have hown : s.vm.findClass "com/example/usnea/usnea/datalog/IntList" = some m.cls := findClass_of_methodNamed Bd.named
  have hnm := (name_of_methodNamed Bd.named Bd.method).1
  have X0 : Stand p l e ({ frames := 2, cells := 1, slots := 5, locals := 32 } : Room) s m #[(.ref a)] below meth c s₁ [] 0 0 := Stand.of_body Bd
  have e0 : s₁.heap = h0 := by rw [← hh, Bd.state]; rfl
  have N0 := Fr.nil n0
  refine own_Goes.of ?_
  refine own_Goes.nm (fun P hPP => ?_)
  refine own_Goes.st ?_ (fun _ k => castTop (own_ef_toarr_5 m a) k)
  have K0 : Keep h0 h0 [] := Keep.refl _ _
  show own_Goes p.tables e below P (s₁.setTop (mkF m 0 #[.val (.ref a)] []))
  refine own_Goes.st ?_ (fun _ k => XS.aloadN X0.here hx rfl (hb hby own_d_prog_11_method_7_0) rfl rfl k)
  show own_Goes p.tables e below P (s₁.setTop (mkF m 1 #[.val (.ref a)] [(.ref a)]))
  obtain ⟨T1, X1, e1, st1⟩ := getF X0 hx hZ hown (host := "") (Or.inl (hw _ (List.mem_of_getElem? (i := 12) rfl))) Via.refl e0 pr0 (g := (mkF m 1 #[.val (.ref a)] [(.ref a)])) rfl rfl (hb hby own_d_prog_11_method_7_1)
  refine own_Goes.st ?_ st1
  show own_Goes p.tables e below P (T1.setTop (mkF m 4 #[.val (.ref a)] [(.ref b)]))
  refine own_Goes.st ?_ (fun _ k => XS.aloadN X1.here hx rfl (hb hby own_d_prog_11_method_7_4) rfl rfl k)
  show own_Goes p.tables e below P (T1.setTop (mkF m 5 #[.val (.ref a)] [(.ref a), (.ref b)]))
  obtain ⟨T2, X2, e2, st2⟩ := getF X1 hx hZ hown (host := "") (Or.inl (hw _ (List.mem_of_getElem? (i := 19) rfl))) Via.refl e1 pr1 (g := (mkF m 5 #[.val (.ref a)] [(.ref a), (.ref b)])) rfl rfl (hb hby own_d_prog_11_method_7_5)
  refine own_Goes.st ?_ st2
  show own_Goes p.tables e below P (T2.setTop (mkF m 8 #[.val (.ref a)] [(.int (5 : Int32)), (.ref b)]))
  obtain ⟨_, _, ⟨T3, L3, k3, n3⟩, -, X3, ⟨Lc3, hQ3, l3, y3, z3⟩, st3⟩ := Jvm.LawKit.callS X2 hx (y := (⟨"java/util/Arrays", "copyOf", "([II)[I"⟩ : MethodName)) hown (mvT hZ (hw _ (List.mem_of_getElem? (i := 26) rfl))) (mvT hZ (hw _ (List.mem_of_getElem? (i := 27) rfl))) (mvT hZ (hw _ (List.mem_of_getElem? (i := 28) rfl))) (mvT hZ (hw _ (List.mem_of_getElem? (i := 29) rfl))) (by decide) (backOf (W := 0) (rm_copy_5_8_5 l Z a0 hw [] b k x0 x1 x2 x3 x4 h0 n0 Z0 pr2 pr3) hZ (hw _ (List.mem_of_getElem? (i := 29) rfl)) (hw _ (List.mem_of_getElem? (i := 28) rfl)) (by decide) (by decide)) (g := (mkF m 8 #[.val (.ref a)] [(.int (5 : Int32)), (.ref b)])) rfl (by rw [hml]; rfl) (argsL := [(.ref b), (.int (5 : Int32))]) (rest := []) (lenOf own_pd__28__5b_II_29__5b_I rfl) rfl (by show 2 * 0 + _ ≤ _; exact Nat.le_of_eq rfl) (hb hby own_d_prog_11_method_7_8) (fun _ _ => ⟨rfl, e2, (by decide : 0 + 1 ≤ _), (by decide : 0 + 5 ≤ _)⟩)
  dsimp only [Pt.U, Pt.locs, Pt.cells, Pt.slots] at X3 l3 y3 z3 st3 hQ3
  rw [l3, y3, z3] at X3
  obtain ⟨r3, q3, rfl, Nq3, K3, f4, f5, f6⟩ := hQ3
  have N3 := Fr.app N0 Nq3
  refine own_Goes.st ?_ st3
  have ne7 : a ≠ r3 := Nat.ne_of_lt (Nat.lt_of_lt_of_le pr0.lt f4)
  have ne8 : b ≠ r3 := Nat.ne_of_lt (Nat.lt_of_lt_of_le pr2.lt f4)
  have ge_r3 : n0 ≤ r3 := Nat.le_trans Z0 f4
  have sz_r3 : h0.size ≤ r3 := Nat.le_trans K0.1 f4
  have Z9 : n0 ≤ T3.heap.size := Nat.le_trans Z0 K3.1
  have K10 := K0.trans K3 all0
  show own_Goes p.tables e below P (T3.setTop (mkF m 11 #[.val (.ref a)] [(.ref r3)]))
  obtain ⟨fs, hr, hrun, hended, hW, hsame⟩ := X3.leave (v := some (.ref r3)) (fun h => by rw [Bd.returns] at h; cases h)
  exact own_Goes.fin _ _ (retOut X3 hx (t := (.array .int)) Bd.returns rfl (Or.inr (Or.inr (Or.inr (Or.inr ⟨rfl, rfl, rfl⟩)))) (hb hby own_d_prog_11_method_7_11) hr) (hPP _ _ ⟨hrun, hended, _, _, rfl, (by show Q_toarr_5 Z a b k x0 x1 x2 x3 x4 h0 n0 _ T3.heap _; exact ⟨r3, q3, rfl, N3, K10, sz_r3, f5⟩), ⟨_, rfl⟩, hW, hsame.mono (by decide) (by decide)⟩)
theorem own_ef_toarr_6 (m : MethodId) (x0 : Addr) : entryFrame m #[(.ref x0)] 1 = mkF m 0 #[.val (.ref x0)] [] := by first | (simp [entryFrame, mkF, argsToLocals, Value.category]; done) | rfl
def Q_toarr_6 (Z : State) (a : Addr) (b : Addr) (k : ClassId) (x0 : Int32) (x1 : Int32) (x2 : Int32) (x3 : Int32) (x4 : Int32) (x5 : Int32) (h0 : Heap) (n0 : Nat) (rv_ : Option Value) (h_ : Heap) (L_ : List Loc) : Prop := ∃ (r : Addr) (q : ClassId), rv_ = some (.ref r) ∧ Fr n0 L_ ∧ Keep h0 h_ [] ∧ (h0.size ≤ r) ∧ (Arv Z h_ r q .int (6 : Int32) [(.int x0), (.int x1), (.int x2), (.int x3), (.int x4), (.int x5)] (.int 0))
set_option maxRecDepth 65536 in
set_option maxHeartbeats 40000000 in
theorem rm_toarr_6 (l : Launch) (Z : State) (a0 : Array Value) (hw : ∀ d ∈ tables_1, d.before a0 Z = true) (ws : List Jvm.Cond) (a : Addr) (b : Addr) (k : ClassId) (x0 : Int32) (x1 : Int32) (x2 : Int32) (x3 : Int32) (x4 : Int32) (x5 : Int32) (h0 : Heap) (n0 : Nat) (Z0 : n0 ≤ h0.size) (pr0 : Fld Z h0 a "com/example/usnea/usnea/datalog/IntList" "values" "[I" (.ref b)) (pr1 : Fld Z h0 a "com/example/usnea/usnea/datalog/IntList" "size" "I" (.int (6 : Int32))) (pr2 : Arv Z h0 b k .int (8 : Int32) [(.int x0), (.int x1), (.int x2), (.int x3), (.int x4), (.int x5), (.int (0 : Int32)), (.int (0 : Int32))] (.int 0)) (pr3 : Exa Z h0 b "[I") :
    MetFree l (⟨"com/example/usnea/usnea/datalog/IntList", "toArray", "()[I"⟩ : MethodName) (head1 (Jvm.Cond.code (⟨"com/example/usnea/usnea/datalog/IntList", "toArray", "()[I"⟩ : MethodName) prog_11_method_7_code 1 (some (.array .int)) :: ws) ({ frames := 2, cells := 1, slots := 6, locals := 32 } : Room)) (fun as_ U => as_ = #[(.ref a)] ∧ Z.Warmed39 U.vm ∧ U.heap = h0) (fun _ _ _ _ _ => True) (fun _ U o U' => ∃ rv_ L_, o = .returned rv_ ∧ Q_toarr_6 Z a b k x0 x1 x2 x3 x4 x5 h0 n0 rv_ U'.heap L_ ∧ FrameEnd U o U' L_ ({ frames := 2, cells := 1, slots := 6, locals := 32 } : Room).cells ({ frames := 2, cells := 1, slots := 6, locals := 32 } : Room).slots) := by
  refine MetFree.of_bodySF (plainFor_of_name own_pn_com_example_usnea_usnea_datalog_IntList) hisR ?_
  intro p e s m args below meth c s₁ Bd hml0 hP hK
  obtain ⟨rfl, hZ, hh⟩ := hP
  have hx := Bd.exec
  have hby := Bd.bytes
  have hml : c.maxLocals = 1 := hml0
  have hown : s.vm.findClass "com/example/usnea/usnea/datalog/IntList" = some m.cls := findClass_of_methodNamed Bd.named
  have hnm := (name_of_methodNamed Bd.named Bd.method).1
  have X0 : Stand p l e ({ frames := 2, cells := 1, slots := 6, locals := 32 } : Room) s m #[(.ref a)] below meth c s₁ [] 0 0 := Stand.of_body Bd
  have e0 : s₁.heap = h0 := by rw [← hh, Bd.state]; rfl
  have N0 := Fr.nil n0
  refine own_Goes.of ?_
  refine own_Goes.nm (fun P hPP => ?_)
  refine own_Goes.st ?_ (fun _ k => castTop (own_ef_toarr_6 m a) k)
  have K0 : Keep h0 h0 [] := Keep.refl _ _
  show own_Goes p.tables e below P (s₁.setTop (mkF m 0 #[.val (.ref a)] []))
  refine own_Goes.st ?_ (fun _ k => XS.aloadN X0.here hx rfl (hb hby own_d_prog_11_method_7_0) rfl rfl k)
  show own_Goes p.tables e below P (s₁.setTop (mkF m 1 #[.val (.ref a)] [(.ref a)]))
  obtain ⟨T1, X1, e1, st1⟩ := getF X0 hx hZ hown (host := "") (Or.inl (hw _ (List.mem_of_getElem? (i := 12) rfl))) Via.refl e0 pr0 (g := (mkF m 1 #[.val (.ref a)] [(.ref a)])) rfl rfl (hb hby own_d_prog_11_method_7_1)
  refine own_Goes.st ?_ st1
  show own_Goes p.tables e below P (T1.setTop (mkF m 4 #[.val (.ref a)] [(.ref b)]))
  refine own_Goes.st ?_ (fun _ k => XS.aloadN X1.here hx rfl (hb hby own_d_prog_11_method_7_4) rfl rfl k)
  show own_Goes p.tables e below P (T1.setTop (mkF m 5 #[.val (.ref a)] [(.ref a), (.ref b)]))
  obtain ⟨T2, X2, e2, st2⟩ := getF X1 hx hZ hown (host := "") (Or.inl (hw _ (List.mem_of_getElem? (i := 19) rfl))) Via.refl e1 pr1 (g := (mkF m 5 #[.val (.ref a)] [(.ref a), (.ref b)])) rfl rfl (hb hby own_d_prog_11_method_7_5)
  refine own_Goes.st ?_ st2
  show own_Goes p.tables e below P (T2.setTop (mkF m 8 #[.val (.ref a)] [(.int (6 : Int32)), (.ref b)]))
  obtain ⟨_, _, ⟨T3, L3, k3, n3⟩, -, X3, ⟨Lc3, hQ3, l3, y3, z3⟩, st3⟩ := Jvm.LawKit.callS X2 hx (y := (⟨"java/util/Arrays", "copyOf", "([II)[I"⟩ : MethodName)) hown (mvT hZ (hw _ (List.mem_of_getElem? (i := 26) rfl))) (mvT hZ (hw _ (List.mem_of_getElem? (i := 27) rfl))) (mvT hZ (hw _ (List.mem_of_getElem? (i := 28) rfl))) (mvT hZ (hw _ (List.mem_of_getElem? (i := 29) rfl))) (by decide) (backOf (W := 0) (rm_copy_6_8_6 l Z a0 hw [] b k x0 x1 x2 x3 x4 x5 h0 n0 Z0 pr2 pr3) hZ (hw _ (List.mem_of_getElem? (i := 29) rfl)) (hw _ (List.mem_of_getElem? (i := 28) rfl)) (by decide) (by decide)) (g := (mkF m 8 #[.val (.ref a)] [(.int (6 : Int32)), (.ref b)])) rfl (by rw [hml]; rfl) (argsL := [(.ref b), (.int (6 : Int32))]) (rest := []) (lenOf own_pd__28__5b_II_29__5b_I rfl) rfl (by show 2 * 0 + _ ≤ _; exact Nat.le_of_eq rfl) (hb hby own_d_prog_11_method_7_8) (fun _ _ => ⟨rfl, e2, (by decide : 0 + 1 ≤ _), (by decide : 0 + 6 ≤ _)⟩)
  dsimp only [Pt.U, Pt.locs, Pt.cells, Pt.slots] at X3 l3 y3 z3 st3 hQ3
  rw [l3, y3, z3] at X3
  obtain ⟨r3, q3, rfl, Nq3, K3, f4, f5, f6⟩ := hQ3
  have N3 := Fr.app N0 Nq3
  refine own_Goes.st ?_ st3
  have ne7 : a ≠ r3 := Nat.ne_of_lt (Nat.lt_of_lt_of_le pr0.lt f4)
  have ne8 : b ≠ r3 := Nat.ne_of_lt (Nat.lt_of_lt_of_le pr2.lt f4)
  have ge_r3 : n0 ≤ r3 := Nat.le_trans Z0 f4
  have sz_r3 : h0.size ≤ r3 := Nat.le_trans K0.1 f4
  have Z9 : n0 ≤ T3.heap.size := Nat.le_trans Z0 K3.1
  have K10 := K0.trans K3 all0
  show own_Goes p.tables e below P (T3.setTop (mkF m 11 #[.val (.ref a)] [(.ref r3)]))
  obtain ⟨fs, hr, hrun, hended, hW, hsame⟩ := X3.leave (v := some (.ref r3)) (fun h => by rw [Bd.returns] at h; cases h)
  exact own_Goes.fin _ _ (retOut X3 hx (t := (.array .int)) Bd.returns rfl (Or.inr (Or.inr (Or.inr (Or.inr ⟨rfl, rfl, rfl⟩)))) (hb hby own_d_prog_11_method_7_11) hr) (hPP _ _ ⟨hrun, hended, _, _, rfl, (by show Q_toarr_6 Z a b k x0 x1 x2 x3 x4 x5 h0 n0 _ T3.heap _; exact ⟨r3, q3, rfl, N3, K10, sz_r3, f5⟩), ⟨_, rfl⟩, hW, hsame.mono (by decide) (by decide)⟩)
theorem own_ef_size (m : MethodId) (x0 : Addr) : entryFrame m #[(.ref x0)] 1 = mkF m 0 #[.val (.ref x0)] [] := by first | (simp [entryFrame, mkF, argsToLocals, Value.category]; done) | rfl
theorem own_d_prog_11_method_2_0 : decode prog_11_method_2_code 0 = .ok (.aload_n 0, 1) := by decide +kernel
theorem own_d_prog_11_method_2_1 : decode prog_11_method_2_code 1 = .ok (.getfield 13, 3) := by decide +kernel
theorem own_d_prog_11_method_2_4 : decode prog_11_method_2_code 4 = .ok (.ireturn, 1) := by decide +kernel
def Q_size (Z : State) (a : Addr) (n : Int32) (h0 : Heap) (n0 : Nat) (rv_ : Option Value) (h_ : Heap) (L_ : List Loc) : Prop := rv_ = some (.int n) ∧ Fr n0 L_ ∧ h_ = h0
set_option maxRecDepth 65536 in
set_option maxHeartbeats 40000000 in
theorem rm_size (l : Launch) (Z : State) (a0 : Array Value) (hw : ∀ d ∈ tables_1, d.before a0 Z = true) (ws : List Jvm.Cond) (a : Addr) (n : Int32) (h0 : Heap) (n0 : Nat) (Z0 : n0 ≤ h0.size) (pr0 : Fld Z h0 a "com/example/usnea/usnea/datalog/IntList" "size" "I" (.int n)) :
    MetFree l (⟨"com/example/usnea/usnea/datalog/IntList", "size", "()I"⟩ : MethodName) (head1 (Jvm.Cond.code (⟨"com/example/usnea/usnea/datalog/IntList", "size", "()I"⟩ : MethodName) prog_11_method_2_code 1 (some .int) :: ws) ({ frames := 0, cells := 0, slots := 0, locals := 0 } : Room)) (fun as_ U => as_ = #[(.ref a)] ∧ Z.Warmed39 U.vm ∧ U.heap = h0) (fun _ _ _ _ _ => True) (fun _ U o U' => ∃ rv_ L_, o = .returned rv_ ∧ Q_size Z a n h0 n0 rv_ U'.heap L_ ∧ FrameEnd U o U' L_ ({ frames := 0, cells := 0, slots := 0, locals := 0 } : Room).cells ({ frames := 0, cells := 0, slots := 0, locals := 0 } : Room).slots) := by
  refine MetFree.of_bodySF (plainFor_of_name own_pn_com_example_usnea_usnea_datalog_IntList) hisR ?_
  intro p e s m args below meth c s₁ Bd hml0 hP hK
  obtain ⟨rfl, hZ, hh⟩ := hP
  have hx := Bd.exec
  have hby := Bd.bytes
  have hml : c.maxLocals = 1 := hml0
  have hown : s.vm.findClass "com/example/usnea/usnea/datalog/IntList" = some m.cls := findClass_of_methodNamed Bd.named
  have hnm := (name_of_methodNamed Bd.named Bd.method).1
  have X0 : Stand p l e ({ frames := 0, cells := 0, slots := 0, locals := 0 } : Room) s m #[(.ref a)] below meth c s₁ [] 0 0 := Stand.of_body Bd
  have e0 : s₁.heap = h0 := by rw [← hh, Bd.state]; rfl
  have N0 := Fr.nil n0
  refine own_Goes.of ?_
  refine own_Goes.nm (fun P hPP => ?_)
  refine own_Goes.st ?_ (fun _ k => castTop (own_ef_size m a) k)
  show own_Goes p.tables e below P (s₁.setTop (mkF m 0 #[.val (.ref a)] []))
  refine own_Goes.st ?_ (fun _ k => XS.aloadN X0.here hx rfl (hb hby own_d_prog_11_method_2_0) rfl rfl k)
  show own_Goes p.tables e below P (s₁.setTop (mkF m 1 #[.val (.ref a)] [(.ref a)]))
  obtain ⟨T1, X1, e1, st1⟩ := getF X0 hx hZ hown (host := "") (Or.inl (hw _ (List.mem_of_getElem? (i := 19) rfl))) Via.refl e0 pr0 (g := (mkF m 1 #[.val (.ref a)] [(.ref a)])) rfl rfl (hb hby own_d_prog_11_method_2_1)
  refine own_Goes.st ?_ st1
  show own_Goes p.tables e below P (T1.setTop (mkF m 4 #[.val (.ref a)] [(.int n)]))
  obtain ⟨fs, hr, hrun, hended, hW, hsame⟩ := X1.leave (v := some (.int n)) (fun h => by rw [Bd.returns] at h; cases h)
  exact own_Goes.fin _ _ (retOut X1 hx (t := .int) Bd.returns rfl (Or.inl ⟨rfl, Or.inl rfl, _, rfl⟩) (hb hby own_d_prog_11_method_2_4) hr) (hPP _ _ ⟨hrun, hended, _, _, rfl, (by show Q_size Z a n h0 n0 _ T1.heap _; rw [e1]; exact ⟨rfl, N0, rfl⟩), ⟨_, rfl⟩, hW, hsame.mono (by decide) (by decide)⟩)
theorem own_ef_law (m : MethodId) (x0 : Int32) (x1 : Int32) (x2 : Int32) (x3 : Int32) (x4 : Int32) (x5 : Int32) : entryFrame m #[(.int x0), (.int x1), (.int x2), (.int x3), (.int x4), (.int x5)] maxLocals = mkF m 0 #[.val (.int x0), .val (.int x1), .val (.int x2), .val (.int x3), .val (.int x4), .val (.int x5), .unset, .unset, .unset, .unset, .unset] [] := by first | (simp [entryFrame, mkF, argsToLocals, Value.category, maxLocals]; done) | rfl
theorem own_pn_com_example_usnea_usnea_datalog_IntListAddPinLaw : plainName "com/example/usnea/usnea/datalog/IntListAddPinLaw" = true := by first | (simp [plainName, overriddenIn]; done) | decide +kernel
theorem own_pd__28__29_V : parseMethodDescriptor "()V" = some ⟨[], none⟩ := by decide +kernel
theorem own_pd__28__29_I : parseMethodDescriptor "()I" = some ⟨[], some .int⟩ := by decide +kernel
theorem own_pd__28__29__5b_I : parseMethodDescriptor "()[I" = some ⟨[], some (.array .int)⟩ := by decide +kernel
theorem own_pd__28_I_29_V : parseMethodDescriptor "(I)V" = some ⟨[.int], none⟩ := by decide +kernel
def Q_law (n0 : Nat) (v : Option Value) (L : List Loc) : Prop := v = some (.int 1) ∧ Fr n0 L
set_option maxRecDepth 65536 in
set_option maxHeartbeats 40000000 in
theorem rm_law (l : Launch) (Z : State) (a0 : Array Value) (hw : ∀ d ∈ tables_1, d.before a0 Z = true) (ws : List Jvm.Cond) (p0 : Int32) (p1 : Int32) (p2 : Int32) (p3 : Int32) (p4 : Int32) (p5 : Int32) (h0 : Heap) (n0 : Nat) (Z0 : n0 ≤ h0.size) :
    MetFree l x (head1 (Jvm.Cond.code x code maxLocals ret :: ws) room_1) (fun as_ U => as_ = #[(.int p0), (.int p1), (.int p2), (.int p3), (.int p4), (.int p5)] ∧ Z.Warmed39 U.vm ∧ U.heap = h0) (fun _ _ _ _ _ => True) (fun _ U o U' => ∃ v L, o = .returned v ∧ Q_law n0 v L ∧ FrameEnd U o U' L 16 128) := by
  refine MetFree.of_bodySF (plainFor_of_name own_pn_com_example_usnea_usnea_datalog_IntListAddPinLaw) hisR ?_
  intro p e s m args below meth c s₁ Bd hml0 hP hK
  obtain ⟨rfl, hZ, hh⟩ := hP
  have hx := Bd.exec
  have hby := Bd.bytes
  have hml : c.maxLocals = 11 := hml0
  have hown : s.vm.findClass "com/example/usnea/usnea/datalog/IntListAddPinLaw" = some m.cls := findClass_of_methodNamed Bd.named
  have hnm := (name_of_methodNamed Bd.named Bd.method).1
  have X0 : Stand p l e room_1 s m #[(.int p0), (.int p1), (.int p2), (.int p3), (.int p4), (.int p5)] below meth c s₁ [] 0 0 := Stand.of_body Bd
  have e0 : s₁.heap = h0 := by rw [← hh, Bd.state]; rfl
  have N0 := Fr.nil n0
  refine own_Goes.of ?_
  refine own_Goes.nm (fun P hPP => ?_)
  refine own_Goes.st ?_ (fun _ k => castTop (own_ef_law m p0 p1 p2 p3 p4 p5) k)
  show own_Goes p.tables e below P (s₁.setTop (mkF m 0 #[.val (.int p0), .val (.int p1), .val (.int p2), .val (.int p3), .val (.int p4), .val (.int p5), .unset, .unset, .unset, .unset, .unset] []))
  refine own_Goes.st ?_ (fun _ k => XS.iloadN X0.here hx rfl (hb hby at_0) rfl k)
  show own_Goes p.tables e below P (s₁.setTop (mkF m 1 #[.val (.int p0), .val (.int p1), .val (.int p2), .val (.int p3), .val (.int p4), .val (.int p5), .unset, .unset, .unset, .unset, .unset] [(.int p0)]))
  refine own_Goes.st ?_ (X0.ldcInt hx hown (mvT hZ (hw _ (List.mem_of_getElem? (i := 0) rfl))) (g := (mkF m 1 #[.val (.int p0), .val (.int p1), .val (.int p2), .val (.int p3), .val (.int p4), .val (.int p5), .unset, .unset, .unset, .unset, .unset] [(.int p0)])) rfl (hb hby at_1))
  show own_Goes p.tables e below P (s₁.setTop (mkF m 3 #[.val (.int p0), .val (.int p1), .val (.int p2), .val (.int p3), .val (.int p4), .val (.int p5), .unset, .unset, .unset, .unset, .unset] [(.int (2147483647 : Int32)), (.int p0)]))
  refine own_Goes.st ?_ (fun _ k => XS.iand X0.here hx rfl (hb hby at_3) rfl k)
  show own_Goes p.tables e below P (s₁.setTop (mkF m 4 #[.val (.int p0), .val (.int p1), .val (.int p2), .val (.int p3), .val (.int p4), .val (.int p5), .unset, .unset, .unset, .unset, .unset] [(.int (p0 &&& (2147483647 : Int32)))]))
  refine own_Goes.st ?_ (fun _ k => XS.bipush X0.here hx rfl (hb hby at_4) k)
  show own_Goes p.tables e below P (s₁.setTop (mkF m 6 #[.val (.int p0), .val (.int p1), .val (.int p2), .val (.int p3), .val (.int p4), .val (.int p5), .unset, .unset, .unset, .unset, .unset] [(.int (7 : Int32)), (.int (p0 &&& (2147483647 : Int32)))]))
  refine own_Goes.st ?_ (fun _ k => iremM X0 hx rfl (hb hby at_6) rfl (by decide) k)
  show own_Goes p.tables e below P (s₁.setTop (mkF m 7 #[.val (.int p0), .val (.int p1), .val (.int p2), .val (.int p3), .val (.int p4), .val (.int p5), .unset, .unset, .unset, .unset, .unset] [(.int ((p0 &&& (2147483647 : Int32)) % (7 : Int32)))]))
  refine own_Goes.st ?_ (fun _ k => XS.istore X0.here hx rfl (hb hby at_7) rfl (l' := #[.val (.int p0), .val (.int p1), .val (.int p2), .val (.int p3), .val (.int p4), .val (.int p5), .val (.int ((p0 &&& (2147483647 : Int32)) % (7 : Int32))), .unset, .unset, .unset, .unset]) rfl k)
  show own_Goes p.tables e below P (s₁.setTop (mkF m 9 #[.val (.int p0), .val (.int p1), .val (.int p2), .val (.int p3), .val (.int p4), .val (.int p5), .val (.int ((p0 &&& (2147483647 : Int32)) % (7 : Int32))), .unset, .unset, .unset, .unset] []))
  generalize hkk : ((p0 &&& (2147483647 : Int32)) % (7 : Int32)) = kk
  show own_Goes p.tables e below P (s₁.setTop (mkF m 9 #[.val (.int p0), .val (.int p1), .val (.int p2), .val (.int p3), .val (.int p4), .val (.int p5), .val (.int kk), .unset, .unset, .unset, .unset] []))
  refine own_Goes.st ?_ (fun _ k => XS.iloadN X0.here hx rfl (hb hby at_9) rfl k)
  show own_Goes p.tables e below P (s₁.setTop (mkF m 10 #[.val (.int p0), .val (.int p1), .val (.int p2), .val (.int p3), .val (.int p4), .val (.int p5), .val (.int kk), .unset, .unset, .unset, .unset] [(.int p1)]))
  refine own_Goes.st ?_ (X0.ldcInt hx hown (mvT hZ (hw _ (List.mem_of_getElem? (i := 1) rfl))) (g := (mkF m 10 #[.val (.int p0), .val (.int p1), .val (.int p2), .val (.int p3), .val (.int p4), .val (.int p5), .val (.int kk), .unset, .unset, .unset, .unset] [(.int p1)])) rfl (hb hby at_10))
  show own_Goes p.tables e below P (s₁.setTop (mkF m 12 #[.val (.int p0), .val (.int p1), .val (.int p2), .val (.int p3), .val (.int p4), .val (.int p5), .val (.int kk), .unset, .unset, .unset, .unset] [(.int (1515870810 : Int32)), (.int p1)]))
  refine own_Goes.st ?_ (fun _ k => XS.ixor X0.here hx rfl (hb hby at_12) rfl k)
  show own_Goes p.tables e below P (s₁.setTop (mkF m 13 #[.val (.int p0), .val (.int p1), .val (.int p2), .val (.int p3), .val (.int p4), .val (.int p5), .val (.int kk), .unset, .unset, .unset, .unset] [(.int (p1 ^^^ (1515870810 : Int32)))]))
  refine own_Goes.st ?_ (fun _ k => XS.istore X0.here hx rfl (hb hby at_13) rfl (l' := #[.val (.int p0), .val (.int p1), .val (.int p2), .val (.int p3), .val (.int p4), .val (.int p5), .val (.int kk), .val (.int (p1 ^^^ (1515870810 : Int32))), .unset, .unset, .unset]) rfl k)
  show own_Goes p.tables e below P (s₁.setTop (mkF m 15 #[.val (.int p0), .val (.int p1), .val (.int p2), .val (.int p3), .val (.int p4), .val (.int p5), .val (.int kk), .val (.int (p1 ^^^ (1515870810 : Int32))), .unset, .unset, .unset] []))
  generalize hff : (p1 ^^^ (1515870810 : Int32)) = ff
  show own_Goes p.tables e below P (s₁.setTop (mkF m 15 #[.val (.int p0), .val (.int p1), .val (.int p2), .val (.int p3), .val (.int p4), .val (.int p5), .val (.int kk), .val (.int ff), .unset, .unset, .unset] []))
  rcases own_k _ _ hkk with rfl | rfl | rfl | rfl | rfl | rfl | rfl
  · skip
    show own_Goes p.tables e below P (s₁.setTop (mkF m 15 #[.val (.int p0), .val (.int p1), .val (.int p2), .val (.int p3), .val (.int p4), .val (.int p5), .val (.int (0 : Int32)), .val (.int ff), .unset, .unset, .unset] []))
    obtain ⟨T1, h1, X1, e1, E1, A1, D1, -, st1⟩ := newO X0 hx hZ hown (hw _ (List.mem_of_getElem? (i := 2) rfl)) (hw _ (List.mem_of_getElem? (i := 3) rfl)) (hw _ (List.mem_of_getElem? (i := 4) rfl)) e0 (g := (mkF m 15 #[.val (.int p0), .val (.int p1), .val (.int p2), .val (.int p3), .val (.int p4), .val (.int p5), .val (.int (0 : Int32)), .val (.int ff), .unset, .unset, .unset] [])) rfl (hb hby at_15) (by decide) (by decide)
    obtain ⟨a1, g1⟩ : ∃ z, z = h0.size := ⟨_, rfl⟩
    rw [← g1] at A1 D1 st1
    have ge_a1 : n0 ≤ a1 := Nat.le_trans Z0 (Nat.le_of_eq g1.symm)
    refine own_Goes.st ?_ st1
    have Z2 : n0 ≤ h1.size := Nat.le_trans Z0 E1.1
    have F3 : Fld Z h1 a1 "com/example/usnea/usnea/datalog/IntList" "values" "[I" .null := D1 (Or.inl (hw _ (List.mem_of_getElem? (i := 13) rfl))) (ty := (.array .int)) (by decide)
    have F4 : Fld Z h1 a1 "com/example/usnea/usnea/datalog/IntList" "size" "I" (.int (0 : Int32)) := D1 (Or.inl (hw _ (List.mem_of_getElem? (i := 20) rfl))) (ty := .int) (by decide)
    show own_Goes p.tables e below P (T1.setTop (mkF m 18 #[.val (.int p0), .val (.int p1), .val (.int p2), .val (.int p3), .val (.int p4), .val (.int p5), .val (.int (0 : Int32)), .val (.int ff), .unset, .unset, .unset] [(.ref a1)]))
    refine own_Goes.st ?_ (fun _ k => XS.dup X1.here hx rfl (hb hby at_18) rfl rfl k)
    show own_Goes p.tables e below P (T1.setTop (mkF m 19 #[.val (.int p0), .val (.int p1), .val (.int p2), .val (.int p3), .val (.int p4), .val (.int p5), .val (.int (0 : Int32)), .val (.int ff), .unset, .unset, .unset] [(.ref a1), (.ref a1)]))
    obtain ⟨_, _, ⟨T5, L5, k5, n5⟩, -, X5, ⟨Lc5, hQ5, l5, y5, z5⟩, st5⟩ := X1.specialBack hx (y := (⟨"com/example/usnea/usnea/datalog/IntList", "<init>", "()V"⟩ : MethodName)) rfl hown (mvT hZ (hw _ (List.mem_of_getElem? (i := 5) rfl))) (mvT hZ (hw _ (List.mem_of_getElem? (i := 6) rfl))) (mvT hZ (hw _ (List.mem_of_getElem? (i := 7) rfl))) (by decide) (backOf (W := 1) (rm_ctor l Z a0 hw [] a1 .null h1 n0 Z2 A1 F3 F4 ge_a1) hZ (hw _ (List.mem_of_getElem? (i := 7) rfl)) (hw _ (List.mem_of_getElem? (i := 4) rfl)) (by decide) (by decide)) (g := (mkF m 19 #[.val (.int p0), .val (.int p1), .val (.int p2), .val (.int p3), .val (.int p4), .val (.int p5), .val (.int (0 : Int32)), .val (.int ff), .unset, .unset, .unset] [(.ref a1), (.ref a1)])) rfl (by rw [hml]; rfl) (Steps.refl _) (a := a1) (argsL := []) (rest := [(.ref a1)]) (lenOf own_pd__28__29_V rfl) rfl (by show 2 * 0 + _ ≤ _; exact Nat.le_of_eq rfl) (hb hby at_19) (fun _ _ => ⟨rfl, e1, (by decide : 1 + 1 ≤ _), (by decide : 2 + 4 ≤ _)⟩)
    dsimp only [Pt.U, Pt.locs, Pt.cells, Pt.slots] at X5 l5 y5 z5 st5 hQ5
    rw [l5, y5, z5] at X5
    obtain ⟨b5, k5, rfl, Nq5, K5, f6, f7, f8, f9, f10, f11⟩ := hQ5
    have N5 := Fr.app N0 Nq5
    refine own_Goes.tr st5 ?_
    have ne12 : a1 ≠ b5 := Nat.ne_of_lt (Nat.lt_of_lt_of_le A1.lt f9)
    have ge_b5 : n0 ≤ b5 := Nat.le_trans Z2 f9
    have Z13 : n0 ≤ T5.heap.size := Nat.le_trans Z2 K5.1
    show own_Goes p.tables e below P (T5.setTop (mkF m 22 #[.val (.int p0), .val (.int p1), .val (.int p2), .val (.int p3), .val (.int p4), .val (.int p5), .val (.int (0 : Int32)), .val (.int ff), .unset, .unset, .unset] [(.ref a1)]))
    refine own_Goes.st ?_ (fun _ k => XS.astore X5.here hx rfl (hb hby at_22) rfl rfl (l' := #[.val (.int p0), .val (.int p1), .val (.int p2), .val (.int p3), .val (.int p4), .val (.int p5), .val (.int (0 : Int32)), .val (.int ff), .val (.ref a1), .unset, .unset]) rfl k)
    show own_Goes p.tables e below P (T5.setTop (mkF m 24 #[.val (.int p0), .val (.int p1), .val (.int p2), .val (.int p3), .val (.int p4), .val (.int p5), .val (.int (0 : Int32)), .val (.int ff), .val (.ref a1), .unset, .unset] []))
    refine own_Goes.st ?_ (fun _ k => XS.iload X5.here hx rfl (hb hby at_24) rfl k)
    show own_Goes p.tables e below P (T5.setTop (mkF m 26 #[.val (.int p0), .val (.int p1), .val (.int p2), .val (.int p3), .val (.int p4), .val (.int p5), .val (.int (0 : Int32)), .val (.int ff), .val (.ref a1), .unset, .unset] [(.int (0 : Int32))]))
    refine own_Goes.st ?_ (fun _ k => XS.ifYes X5.here hx rfl (pc0 := 26) (pc' := 35) rfl (hb hby at_26) rfl ((if0 _ _).trans (flt (by decide : ¬ ((0 : Int32) < (0 : Int32)))).2.2.2) (by decide) (by decide) k)
    show own_Goes p.tables e below P (T5.setTop (mkF m 35 #[.val (.int p0), .val (.int p1), .val (.int p2), .val (.int p3), .val (.int p4), .val (.int p5), .val (.int (0 : Int32)), .val (.int ff), .val (.ref a1), .unset, .unset] []))
    refine own_Goes.st ?_ (fun _ k => XS.iload X5.here hx rfl (hb hby at_35) rfl k)
    show own_Goes p.tables e below P (T5.setTop (mkF m 37 #[.val (.int p0), .val (.int p1), .val (.int p2), .val (.int p3), .val (.int p4), .val (.int p5), .val (.int (0 : Int32)), .val (.int ff), .val (.ref a1), .unset, .unset] [(.int (0 : Int32))]))
    refine own_Goes.st ?_ (fun _ k => XS.iconst X5.here hx rfl (hb hby at_37) k)
    show own_Goes p.tables e below P (T5.setTop (mkF m 38 #[.val (.int p0), .val (.int p1), .val (.int p2), .val (.int p3), .val (.int p4), .val (.int p5), .val (.int (0 : Int32)), .val (.int ff), .val (.ref a1), .unset, .unset] [(.int (1 : Int32)), (.int (0 : Int32))]))
    refine own_Goes.st ?_ (fun _ k => XS.icmpYes X5.here hx rfl (pc0 := 38) (pc' := 47) rfl (hb hby at_38) rfl (flt (by decide : ¬ ((1 : Int32) < (0 : Int32)))).2.2.2 (by decide) (by decide) k)
    show own_Goes p.tables e below P (T5.setTop (mkF m 47 #[.val (.int p0), .val (.int p1), .val (.int p2), .val (.int p3), .val (.int p4), .val (.int p5), .val (.int (0 : Int32)), .val (.int ff), .val (.ref a1), .unset, .unset] []))
    refine own_Goes.st ?_ (fun _ k => XS.iload X5.here hx rfl (hb hby at_47) rfl k)
    show own_Goes p.tables e below P (T5.setTop (mkF m 49 #[.val (.int p0), .val (.int p1), .val (.int p2), .val (.int p3), .val (.int p4), .val (.int p5), .val (.int (0 : Int32)), .val (.int ff), .val (.ref a1), .unset, .unset] [(.int (0 : Int32))]))
    refine own_Goes.st ?_ (fun _ k => XS.iconst X5.here hx rfl (hb hby at_49) k)
    show own_Goes p.tables e below P (T5.setTop (mkF m 50 #[.val (.int p0), .val (.int p1), .val (.int p2), .val (.int p3), .val (.int p4), .val (.int p5), .val (.int (0 : Int32)), .val (.int ff), .val (.ref a1), .unset, .unset] [(.int (2 : Int32)), (.int (0 : Int32))]))
    refine own_Goes.st ?_ (fun _ k => XS.icmpYes X5.here hx rfl (pc0 := 50) (pc' := 59) rfl (hb hby at_50) rfl (flt (by decide : ¬ ((2 : Int32) < (0 : Int32)))).2.2.2 (by decide) (by decide) k)
    show own_Goes p.tables e below P (T5.setTop (mkF m 59 #[.val (.int p0), .val (.int p1), .val (.int p2), .val (.int p3), .val (.int p4), .val (.int p5), .val (.int (0 : Int32)), .val (.int ff), .val (.ref a1), .unset, .unset] []))
    refine own_Goes.st ?_ (fun _ k => XS.iload X5.here hx rfl (hb hby at_59) rfl k)
    show own_Goes p.tables e below P (T5.setTop (mkF m 61 #[.val (.int p0), .val (.int p1), .val (.int p2), .val (.int p3), .val (.int p4), .val (.int p5), .val (.int (0 : Int32)), .val (.int ff), .val (.ref a1), .unset, .unset] [(.int (0 : Int32))]))
    refine own_Goes.st ?_ (fun _ k => XS.iconst X5.here hx rfl (hb hby at_61) k)
    show own_Goes p.tables e below P (T5.setTop (mkF m 62 #[.val (.int p0), .val (.int p1), .val (.int p2), .val (.int p3), .val (.int p4), .val (.int p5), .val (.int (0 : Int32)), .val (.int ff), .val (.ref a1), .unset, .unset] [(.int (3 : Int32)), (.int (0 : Int32))]))
    refine own_Goes.st ?_ (fun _ k => XS.icmpYes X5.here hx rfl (pc0 := 62) (pc' := 72) rfl (hb hby at_62) rfl (flt (by decide : ¬ ((3 : Int32) < (0 : Int32)))).2.2.2 (by decide) (by decide) k)
    show own_Goes p.tables e below P (T5.setTop (mkF m 72 #[.val (.int p0), .val (.int p1), .val (.int p2), .val (.int p3), .val (.int p4), .val (.int p5), .val (.int (0 : Int32)), .val (.int ff), .val (.ref a1), .unset, .unset] []))
    refine own_Goes.st ?_ (fun _ k => XS.iload X5.here hx rfl (hb hby at_72) rfl k)
    show own_Goes p.tables e below P (T5.setTop (mkF m 74 #[.val (.int p0), .val (.int p1), .val (.int p2), .val (.int p3), .val (.int p4), .val (.int p5), .val (.int (0 : Int32)), .val (.int ff), .val (.ref a1), .unset, .unset] [(.int (0 : Int32))]))
    refine own_Goes.st ?_ (fun _ k => XS.iconst X5.here hx rfl (hb hby at_74) k)
    show own_Goes p.tables e below P (T5.setTop (mkF m 75 #[.val (.int p0), .val (.int p1), .val (.int p2), .val (.int p3), .val (.int p4), .val (.int p5), .val (.int (0 : Int32)), .val (.int ff), .val (.ref a1), .unset, .unset] [(.int (4 : Int32)), (.int (0 : Int32))]))
    refine own_Goes.st ?_ (fun _ k => XS.icmpYes X5.here hx rfl (pc0 := 75) (pc' := 85) rfl (hb hby at_75) rfl (flt (by decide : ¬ ((4 : Int32) < (0 : Int32)))).2.2.2 (by decide) (by decide) k)
    show own_Goes p.tables e below P (T5.setTop (mkF m 85 #[.val (.int p0), .val (.int p1), .val (.int p2), .val (.int p3), .val (.int p4), .val (.int p5), .val (.int (0 : Int32)), .val (.int ff), .val (.ref a1), .unset, .unset] []))
    refine own_Goes.st ?_ (fun _ k => XS.iload X5.here hx rfl (hb hby at_85) rfl k)
    show own_Goes p.tables e below P (T5.setTop (mkF m 87 #[.val (.int p0), .val (.int p1), .val (.int p2), .val (.int p3), .val (.int p4), .val (.int p5), .val (.int (0 : Int32)), .val (.int ff), .val (.ref a1), .unset, .unset] [(.int (0 : Int32))]))
    refine own_Goes.st ?_ (fun _ k => XS.iconst X5.here hx rfl (hb hby at_87) k)
    show own_Goes p.tables e below P (T5.setTop (mkF m 88 #[.val (.int p0), .val (.int p1), .val (.int p2), .val (.int p3), .val (.int p4), .val (.int p5), .val (.int (0 : Int32)), .val (.int ff), .val (.ref a1), .unset, .unset] [(.int (5 : Int32)), (.int (0 : Int32))]))
    refine own_Goes.st ?_ (fun _ k => XS.icmpYes X5.here hx rfl (pc0 := 88) (pc' := 98) rfl (hb hby at_88) rfl (flt (by decide : ¬ ((5 : Int32) < (0 : Int32)))).2.2.2 (by decide) (by decide) k)
    show own_Goes p.tables e below P (T5.setTop (mkF m 98 #[.val (.int p0), .val (.int p1), .val (.int p2), .val (.int p3), .val (.int p4), .val (.int p5), .val (.int (0 : Int32)), .val (.int ff), .val (.ref a1), .unset, .unset] []))
    refine own_Goes.st ?_ (fun _ k => XS.aload X5.here hx rfl (hb hby at_98) rfl rfl k)
    show own_Goes p.tables e below P (T5.setTop (mkF m 100 #[.val (.int p0), .val (.int p1), .val (.int p2), .val (.int p3), .val (.int p4), .val (.int p5), .val (.int (0 : Int32)), .val (.int ff), .val (.ref a1), .unset, .unset] [(.ref a1)]))
    obtain ⟨cq14, kq14, q14a, q14b, q14c⟩ := isOf hZ rfl f6
    obtain ⟨_, _, ⟨T14, L14, k14, n14⟩, -, X14, ⟨Lc14, hQ14, l14, y14, z14⟩, st14⟩ := X5.virtualBack hx (y := (⟨"com/example/usnea/usnea/datalog/IntList", "size", "()I"⟩ : MethodName)) (z := (⟨"com/example/usnea/usnea/datalog/IntList", "size", "()I"⟩ : MethodName)) hown (mvT hZ (hw _ (List.mem_of_getElem? (i := 14) rfl))) (mvT hZ (hw _ (List.mem_of_getElem? (i := 15) rfl))) (notFace_of_selects (args := #[]) (mvT hZ (hw _ (List.mem_of_getElem? (i := 17) rfl)))) (mvT hZ (hw _ (List.mem_of_getElem? (i := 17) rfl))) (mvT hZ (hw _ (List.mem_of_getElem? (i := 16) rfl))) (by decide) (backOf (W := 0) (rm_size l Z a0 hw [] a1 (0 : Int32) T5.heap n0 Z13 f8) hZ (hw _ (List.mem_of_getElem? (i := 18) rfl)) (hw _ (List.mem_of_getElem? (i := 4) rfl)) (by decide) (by decide)) q14a q14c (g := (mkF m 100 #[.val (.int p0), .val (.int p1), .val (.int p2), .val (.int p3), .val (.int p4), .val (.int p5), .val (.int (0 : Int32)), .val (.int ff), .val (.ref a1), .unset, .unset] [(.ref a1)])) rfl (by rw [hml]; rfl) (Steps.refl _) (argsL := []) (rest := []) (lenOf own_pd__28__29_I rfl) rfl (by show 2 * 0 + _ ≤ _; exact Nat.le_of_eq rfl) (hb hby at_100) (fun _ _ => ⟨rfl, rfl, (by decide : 2 + 0 ≤ _), (by decide : 6 + 0 ≤ _)⟩)
    dsimp only [Pt.U, Pt.locs, Pt.cells, Pt.slots] at X14 l14 y14 z14 st14 hQ14
    rw [l14, y14, z14] at X14
    obtain ⟨rfl, Nq14, e14⟩ := hQ14
    have N14 := Fr.app N5 Nq14
    refine own_Goes.tr st14 ?_
    show own_Goes p.tables e below P (T14.setTop (mkF m 103 #[.val (.int p0), .val (.int p1), .val (.int p2), .val (.int p3), .val (.int p4), .val (.int p5), .val (.int (0 : Int32)), .val (.int ff), .val (.ref a1), .unset, .unset] [(.int (0 : Int32))]))
    refine own_Goes.st ?_ (fun _ k => XS.iload X14.here hx rfl (hb hby at_103) rfl k)
    show own_Goes p.tables e below P (T14.setTop (mkF m 105 #[.val (.int p0), .val (.int p1), .val (.int p2), .val (.int p3), .val (.int p4), .val (.int p5), .val (.int (0 : Int32)), .val (.int ff), .val (.ref a1), .unset, .unset] [(.int (0 : Int32)), (.int (0 : Int32))]))
    refine own_Goes.st ?_ (fun _ k => XS.icmpYes X14.here hx rfl (pc0 := 105) (pc' := 110) rfl (hb hby at_105) rfl (teq (by decide : (0 : Int32) = (0 : Int32))).1 (by decide) (by decide) k)
    show own_Goes p.tables e below P (T14.setTop (mkF m 110 #[.val (.int p0), .val (.int p1), .val (.int p2), .val (.int p3), .val (.int p4), .val (.int p5), .val (.int (0 : Int32)), .val (.int ff), .val (.ref a1), .unset, .unset] []))
    refine own_Goes.st ?_ (fun _ k => XS.aload X14.here hx rfl (hb hby at_110) rfl rfl k)
    show own_Goes p.tables e below P (T14.setTop (mkF m 112 #[.val (.int p0), .val (.int p1), .val (.int p2), .val (.int p3), .val (.int p4), .val (.int p5), .val (.int (0 : Int32)), .val (.int ff), .val (.ref a1), .unset, .unset] [(.ref a1)]))
    obtain ⟨cq15, kq15, q15a, q15b, q15c⟩ := isOf hZ e14 f6
    obtain ⟨_, _, ⟨T15, L15, k15, n15⟩, -, X15, ⟨Lc15, hQ15, l15, y15, z15⟩, st15⟩ := X14.virtualBack hx (y := (⟨"com/example/usnea/usnea/datalog/IntList", "toArray", "()[I"⟩ : MethodName)) (z := (⟨"com/example/usnea/usnea/datalog/IntList", "toArray", "()[I"⟩ : MethodName)) hown (mvT hZ (hw _ (List.mem_of_getElem? (i := 21) rfl))) (mvT hZ (hw _ (List.mem_of_getElem? (i := 22) rfl))) (notFace_of_selects (args := #[]) (mvT hZ (hw _ (List.mem_of_getElem? (i := 24) rfl)))) (mvT hZ (hw _ (List.mem_of_getElem? (i := 24) rfl))) (mvT hZ (hw _ (List.mem_of_getElem? (i := 23) rfl))) (by decide) (backOf (W := 0) (rm_toarr_0 l Z a0 hw [] a1 b5 k5 T5.heap n0 Z13 f7 f8 f10 f11) hZ (hw _ (List.mem_of_getElem? (i := 25) rfl)) (hw _ (List.mem_of_getElem? (i := 4) rfl)) (by decide) (by decide)) q15a q15c (g := (mkF m 112 #[.val (.int p0), .val (.int p1), .val (.int p2), .val (.int p3), .val (.int p4), .val (.int p5), .val (.int (0 : Int32)), .val (.int ff), .val (.ref a1), .unset, .unset] [(.ref a1)])) rfl (by rw [hml]; rfl) (Steps.refl _) (argsL := []) (rest := []) (lenOf own_pd__28__29__5b_I rfl) rfl (by show 2 * 0 + _ ≤ _; exact Nat.le_of_eq rfl) (hb hby at_112) (fun _ _ => ⟨rfl, e14, (by decide : 2 + 1 ≤ _), (by decide : 6 + 0 ≤ _)⟩)
    dsimp only [Pt.U, Pt.locs, Pt.cells, Pt.slots] at X15 l15 y15 z15 st15 hQ15
    rw [l15, y15, z15] at X15
    obtain ⟨r15, q15, rfl, Nq15, K15, f16, f17⟩ := hQ15
    have N15 := Fr.app N14 Nq15
    refine own_Goes.tr st15 ?_
    have ne18 : a1 ≠ r15 := Nat.ne_of_lt (Nat.lt_of_lt_of_le f6.lt f16)
    have ne19 : b5 ≠ r15 := Nat.ne_of_lt (Nat.lt_of_lt_of_le f10.lt f16)
    have ge_r15 : n0 ≤ r15 := Nat.le_trans Z13 f16
    have Z20 : n0 ≤ T15.heap.size := Nat.le_trans Z13 K15.1
    show own_Goes p.tables e below P (T15.setTop (mkF m 115 #[.val (.int p0), .val (.int p1), .val (.int p2), .val (.int p3), .val (.int p4), .val (.int p5), .val (.int (0 : Int32)), .val (.int ff), .val (.ref a1), .unset, .unset] [(.ref r15)]))
    refine own_Goes.st ?_ (fun _ k => XS.astore X15.here hx rfl (hb hby at_115) rfl rfl (l' := #[.val (.int p0), .val (.int p1), .val (.int p2), .val (.int p3), .val (.int p4), .val (.int p5), .val (.int (0 : Int32)), .val (.int ff), .val (.ref a1), .val (.ref r15), .unset]) rfl k)
    show own_Goes p.tables e below P (T15.setTop (mkF m 117 #[.val (.int p0), .val (.int p1), .val (.int p2), .val (.int p3), .val (.int p4), .val (.int p5), .val (.int (0 : Int32)), .val (.int ff), .val (.ref a1), .val (.ref r15), .unset] []))
    refine own_Goes.st ?_ (fun _ k => XS.aload X15.here hx rfl (hb hby at_117) rfl rfl k)
    show own_Goes p.tables e below P (T15.setTop (mkF m 119 #[.val (.int p0), .val (.int p1), .val (.int p2), .val (.int p3), .val (.int p4), .val (.int p5), .val (.int (0 : Int32)), .val (.int ff), .val (.ref a1), .val (.ref r15), .unset] [(.ref r15)]))
    have Vc21 := f17
    obtain ⟨cl21, Ar21, qc21, S21, Nn21, Hs21, Gs21⟩ := Vc21
    refine own_Goes.st ?_ (X15.arraylength hx Ar21.1 (State.isArrayOf_alike hZ.alike Ar21.2.1) (g := (mkF m 119 #[.val (.int p0), .val (.int p1), .val (.int p2), .val (.int p3), .val (.int p4), .val (.int p5), .val (.int (0 : Int32)), .val (.int ff), .val (.ref a1), .val (.ref r15), .unset] [(.ref r15)])) rfl rfl (hb hby at_119))
    rw [len_of S21 Nn21]
    show own_Goes p.tables e below P (T15.setTop (mkF m 120 #[.val (.int p0), .val (.int p1), .val (.int p2), .val (.int p3), .val (.int p4), .val (.int p5), .val (.int (0 : Int32)), .val (.int ff), .val (.ref a1), .val (.ref r15), .unset] [(.int (0 : Int32))]))
    refine own_Goes.st ?_ (fun _ k => XS.iload X15.here hx rfl (hb hby at_120) rfl k)
    show own_Goes p.tables e below P (T15.setTop (mkF m 122 #[.val (.int p0), .val (.int p1), .val (.int p2), .val (.int p3), .val (.int p4), .val (.int p5), .val (.int (0 : Int32)), .val (.int ff), .val (.ref a1), .val (.ref r15), .unset] [(.int (0 : Int32)), (.int (0 : Int32))]))
    refine own_Goes.st ?_ (fun _ k => XS.icmpYes X15.here hx rfl (pc0 := 122) (pc' := 127) rfl (hb hby at_122) rfl (teq (by decide : (0 : Int32) = (0 : Int32))).1 (by decide) (by decide) k)
    show own_Goes p.tables e below P (T15.setTop (mkF m 127 #[.val (.int p0), .val (.int p1), .val (.int p2), .val (.int p3), .val (.int p4), .val (.int p5), .val (.int (0 : Int32)), .val (.int ff), .val (.ref a1), .val (.ref r15), .unset] []))
    refine own_Goes.st ?_ (fun _ k => XS.iconst X15.here hx rfl (hb hby at_127) k)
    show own_Goes p.tables e below P (T15.setTop (mkF m 128 #[.val (.int p0), .val (.int p1), .val (.int p2), .val (.int p3), .val (.int p4), .val (.int p5), .val (.int (0 : Int32)), .val (.int ff), .val (.ref a1), .val (.ref r15), .unset] [(.int (1 : Int32))]))
    refine own_Goes.st ?_ (fun _ k => XS.istore X15.here hx rfl (hb hby at_128) rfl (l' := #[.val (.int p0), .val (.int p1), .val (.int p2), .val (.int p3), .val (.int p4), .val (.int p5), .val (.int (0 : Int32)), .val (.int ff), .val (.ref a1), .val (.ref r15), .val (.int (1 : Int32))]) rfl k)
    show own_Goes p.tables e below P (T15.setTop (mkF m 130 #[.val (.int p0), .val (.int p1), .val (.int p2), .val (.int p3), .val (.int p4), .val (.int p5), .val (.int (0 : Int32)), .val (.int ff), .val (.ref a1), .val (.ref r15), .val (.int (1 : Int32))] []))
    refine own_Goes.st ?_ (fun _ k => XS.iload X15.here hx rfl (hb hby at_130) rfl k)
    show own_Goes p.tables e below P (T15.setTop (mkF m 132 #[.val (.int p0), .val (.int p1), .val (.int p2), .val (.int p3), .val (.int p4), .val (.int p5), .val (.int (0 : Int32)), .val (.int ff), .val (.ref a1), .val (.ref r15), .val (.int (1 : Int32))] [(.int (0 : Int32))]))
    refine own_Goes.st ?_ (fun _ k => XS.ifYes X15.here hx rfl (pc0 := 132) (pc' := 155) rfl (hb hby at_132) rfl ((if0 _ _).trans (flt (by decide : ¬ ((0 : Int32) < (0 : Int32)))).2.2.2) (by decide) (by decide) k)
    show own_Goes p.tables e below P (T15.setTop (mkF m 155 #[.val (.int p0), .val (.int p1), .val (.int p2), .val (.int p3), .val (.int p4), .val (.int p5), .val (.int (0 : Int32)), .val (.int ff), .val (.ref a1), .val (.ref r15), .val (.int (1 : Int32))] []))
    refine own_Goes.st ?_ (fun _ k => XS.iload X15.here hx rfl (hb hby at_155) rfl k)
    show own_Goes p.tables e below P (T15.setTop (mkF m 157 #[.val (.int p0), .val (.int p1), .val (.int p2), .val (.int p3), .val (.int p4), .val (.int p5), .val (.int (0 : Int32)), .val (.int ff), .val (.ref a1), .val (.ref r15), .val (.int (1 : Int32))] [(.int (0 : Int32))]))
    refine own_Goes.st ?_ (fun _ k => XS.iconst X15.here hx rfl (hb hby at_157) k)
    show own_Goes p.tables e below P (T15.setTop (mkF m 158 #[.val (.int p0), .val (.int p1), .val (.int p2), .val (.int p3), .val (.int p4), .val (.int p5), .val (.int (0 : Int32)), .val (.int ff), .val (.ref a1), .val (.ref r15), .val (.int (1 : Int32))] [(.int (1 : Int32)), (.int (0 : Int32))]))
    refine own_Goes.st ?_ (fun _ k => XS.icmpYes X15.here hx rfl (pc0 := 158) (pc' := 181) rfl (hb hby at_158) rfl (flt (by decide : ¬ ((1 : Int32) < (0 : Int32)))).2.2.2 (by decide) (by decide) k)
    show own_Goes p.tables e below P (T15.setTop (mkF m 181 #[.val (.int p0), .val (.int p1), .val (.int p2), .val (.int p3), .val (.int p4), .val (.int p5), .val (.int (0 : Int32)), .val (.int ff), .val (.ref a1), .val (.ref r15), .val (.int (1 : Int32))] []))
    refine own_Goes.st ?_ (fun _ k => XS.iload X15.here hx rfl (hb hby at_181) rfl k)
    show own_Goes p.tables e below P (T15.setTop (mkF m 183 #[.val (.int p0), .val (.int p1), .val (.int p2), .val (.int p3), .val (.int p4), .val (.int p5), .val (.int (0 : Int32)), .val (.int ff), .val (.ref a1), .val (.ref r15), .val (.int (1 : Int32))] [(.int (0 : Int32))]))
    refine own_Goes.st ?_ (fun _ k => XS.iconst X15.here hx rfl (hb hby at_183) k)
    show own_Goes p.tables e below P (T15.setTop (mkF m 184 #[.val (.int p0), .val (.int p1), .val (.int p2), .val (.int p3), .val (.int p4), .val (.int p5), .val (.int (0 : Int32)), .val (.int ff), .val (.ref a1), .val (.ref r15), .val (.int (1 : Int32))] [(.int (2 : Int32)), (.int (0 : Int32))]))
    refine own_Goes.st ?_ (fun _ k => XS.icmpYes X15.here hx rfl (pc0 := 184) (pc' := 207) rfl (hb hby at_184) rfl (flt (by decide : ¬ ((2 : Int32) < (0 : Int32)))).2.2.2 (by decide) (by decide) k)
    show own_Goes p.tables e below P (T15.setTop (mkF m 207 #[.val (.int p0), .val (.int p1), .val (.int p2), .val (.int p3), .val (.int p4), .val (.int p5), .val (.int (0 : Int32)), .val (.int ff), .val (.ref a1), .val (.ref r15), .val (.int (1 : Int32))] []))
    refine own_Goes.st ?_ (fun _ k => XS.iload X15.here hx rfl (hb hby at_207) rfl k)
    show own_Goes p.tables e below P (T15.setTop (mkF m 209 #[.val (.int p0), .val (.int p1), .val (.int p2), .val (.int p3), .val (.int p4), .val (.int p5), .val (.int (0 : Int32)), .val (.int ff), .val (.ref a1), .val (.ref r15), .val (.int (1 : Int32))] [(.int (0 : Int32))]))
    refine own_Goes.st ?_ (fun _ k => XS.iconst X15.here hx rfl (hb hby at_209) k)
    show own_Goes p.tables e below P (T15.setTop (mkF m 210 #[.val (.int p0), .val (.int p1), .val (.int p2), .val (.int p3), .val (.int p4), .val (.int p5), .val (.int (0 : Int32)), .val (.int ff), .val (.ref a1), .val (.ref r15), .val (.int (1 : Int32))] [(.int (3 : Int32)), (.int (0 : Int32))]))
    refine own_Goes.st ?_ (fun _ k => XS.icmpYes X15.here hx rfl (pc0 := 210) (pc' := 234) rfl (hb hby at_210) rfl (flt (by decide : ¬ ((3 : Int32) < (0 : Int32)))).2.2.2 (by decide) (by decide) k)
    show own_Goes p.tables e below P (T15.setTop (mkF m 234 #[.val (.int p0), .val (.int p1), .val (.int p2), .val (.int p3), .val (.int p4), .val (.int p5), .val (.int (0 : Int32)), .val (.int ff), .val (.ref a1), .val (.ref r15), .val (.int (1 : Int32))] []))
    refine own_Goes.st ?_ (fun _ k => XS.iload X15.here hx rfl (hb hby at_234) rfl k)
    show own_Goes p.tables e below P (T15.setTop (mkF m 236 #[.val (.int p0), .val (.int p1), .val (.int p2), .val (.int p3), .val (.int p4), .val (.int p5), .val (.int (0 : Int32)), .val (.int ff), .val (.ref a1), .val (.ref r15), .val (.int (1 : Int32))] [(.int (0 : Int32))]))
    refine own_Goes.st ?_ (fun _ k => XS.iconst X15.here hx rfl (hb hby at_236) k)
    show own_Goes p.tables e below P (T15.setTop (mkF m 237 #[.val (.int p0), .val (.int p1), .val (.int p2), .val (.int p3), .val (.int p4), .val (.int p5), .val (.int (0 : Int32)), .val (.int ff), .val (.ref a1), .val (.ref r15), .val (.int (1 : Int32))] [(.int (4 : Int32)), (.int (0 : Int32))]))
    refine own_Goes.st ?_ (fun _ k => XS.icmpYes X15.here hx rfl (pc0 := 237) (pc' := 261) rfl (hb hby at_237) rfl (flt (by decide : ¬ ((4 : Int32) < (0 : Int32)))).2.2.2 (by decide) (by decide) k)
    show own_Goes p.tables e below P (T15.setTop (mkF m 261 #[.val (.int p0), .val (.int p1), .val (.int p2), .val (.int p3), .val (.int p4), .val (.int p5), .val (.int (0 : Int32)), .val (.int ff), .val (.ref a1), .val (.ref r15), .val (.int (1 : Int32))] []))
    refine own_Goes.st ?_ (fun _ k => XS.iload X15.here hx rfl (hb hby at_261) rfl k)
    show own_Goes p.tables e below P (T15.setTop (mkF m 263 #[.val (.int p0), .val (.int p1), .val (.int p2), .val (.int p3), .val (.int p4), .val (.int p5), .val (.int (0 : Int32)), .val (.int ff), .val (.ref a1), .val (.ref r15), .val (.int (1 : Int32))] [(.int (0 : Int32))]))
    refine own_Goes.st ?_ (fun _ k => XS.iconst X15.here hx rfl (hb hby at_263) k)
    show own_Goes p.tables e below P (T15.setTop (mkF m 264 #[.val (.int p0), .val (.int p1), .val (.int p2), .val (.int p3), .val (.int p4), .val (.int p5), .val (.int (0 : Int32)), .val (.int ff), .val (.ref a1), .val (.ref r15), .val (.int (1 : Int32))] [(.int (5 : Int32)), (.int (0 : Int32))]))
    refine own_Goes.st ?_ (fun _ k => XS.icmpYes X15.here hx rfl (pc0 := 264) (pc' := 288) rfl (hb hby at_264) rfl (flt (by decide : ¬ ((5 : Int32) < (0 : Int32)))).2.2.2 (by decide) (by decide) k)
    show own_Goes p.tables e below P (T15.setTop (mkF m 288 #[.val (.int p0), .val (.int p1), .val (.int p2), .val (.int p3), .val (.int p4), .val (.int p5), .val (.int (0 : Int32)), .val (.int ff), .val (.ref a1), .val (.ref r15), .val (.int (1 : Int32))] []))
    refine own_Goes.st ?_ (fun _ k => XS.iload X15.here hx rfl (hb hby at_288) rfl k)
    show own_Goes p.tables e below P (T15.setTop (mkF m 290 #[.val (.int p0), .val (.int p1), .val (.int p2), .val (.int p3), .val (.int p4), .val (.int p5), .val (.int (0 : Int32)), .val (.int ff), .val (.ref a1), .val (.ref r15), .val (.int (1 : Int32))] [(.int (1 : Int32))]))
    obtain ⟨fs, hr, hrun, hended, hW, hsame⟩ := X15.leave (v := some (.int (1 : Int32))) (fun h => by rw [Bd.returns] at h; cases h)
    exact own_Goes.fin _ _ (retOut X15 hx (t := .boolean) Bd.returns rfl (Or.inl ⟨rfl, Or.inr (Or.inl rfl), _, rfl⟩) (hb hby at_290) hr) (hPP _ _ ⟨hrun, hended, _, _, rfl, (by show Q_law n0 _ _; exact ⟨rfl, N15⟩), ⟨_, rfl⟩, hW, hsame.mono (by decide) (by decide)⟩)
  · skip
    show own_Goes p.tables e below P (s₁.setTop (mkF m 15 #[.val (.int p0), .val (.int p1), .val (.int p2), .val (.int p3), .val (.int p4), .val (.int p5), .val (.int (1 : Int32)), .val (.int ff), .unset, .unset, .unset] []))
    obtain ⟨T22, h22, X22, e22, E22, A22, D22, -, st22⟩ := newO X0 hx hZ hown (hw _ (List.mem_of_getElem? (i := 2) rfl)) (hw _ (List.mem_of_getElem? (i := 3) rfl)) (hw _ (List.mem_of_getElem? (i := 4) rfl)) e0 (g := (mkF m 15 #[.val (.int p0), .val (.int p1), .val (.int p2), .val (.int p3), .val (.int p4), .val (.int p5), .val (.int (1 : Int32)), .val (.int ff), .unset, .unset, .unset] [])) rfl (hb hby at_15) (by decide) (by decide)
    obtain ⟨a22, g22⟩ : ∃ z, z = h0.size := ⟨_, rfl⟩
    rw [← g22] at A22 D22 st22
    have ge_a22 : n0 ≤ a22 := Nat.le_trans Z0 (Nat.le_of_eq g22.symm)
    refine own_Goes.st ?_ st22
    have Z23 : n0 ≤ h22.size := Nat.le_trans Z0 E22.1
    have F24 : Fld Z h22 a22 "com/example/usnea/usnea/datalog/IntList" "values" "[I" .null := D22 (Or.inl (hw _ (List.mem_of_getElem? (i := 13) rfl))) (ty := (.array .int)) (by decide)
    have F25 : Fld Z h22 a22 "com/example/usnea/usnea/datalog/IntList" "size" "I" (.int (0 : Int32)) := D22 (Or.inl (hw _ (List.mem_of_getElem? (i := 20) rfl))) (ty := .int) (by decide)
    show own_Goes p.tables e below P (T22.setTop (mkF m 18 #[.val (.int p0), .val (.int p1), .val (.int p2), .val (.int p3), .val (.int p4), .val (.int p5), .val (.int (1 : Int32)), .val (.int ff), .unset, .unset, .unset] [(.ref a22)]))
    refine own_Goes.st ?_ (fun _ k => XS.dup X22.here hx rfl (hb hby at_18) rfl rfl k)
    show own_Goes p.tables e below P (T22.setTop (mkF m 19 #[.val (.int p0), .val (.int p1), .val (.int p2), .val (.int p3), .val (.int p4), .val (.int p5), .val (.int (1 : Int32)), .val (.int ff), .unset, .unset, .unset] [(.ref a22), (.ref a22)]))
    obtain ⟨_, _, ⟨T26, L26, k26, n26⟩, -, X26, ⟨Lc26, hQ26, l26, y26, z26⟩, st26⟩ := X22.specialBack hx (y := (⟨"com/example/usnea/usnea/datalog/IntList", "<init>", "()V"⟩ : MethodName)) rfl hown (mvT hZ (hw _ (List.mem_of_getElem? (i := 5) rfl))) (mvT hZ (hw _ (List.mem_of_getElem? (i := 6) rfl))) (mvT hZ (hw _ (List.mem_of_getElem? (i := 7) rfl))) (by decide) (backOf (W := 1) (rm_ctor l Z a0 hw [] a22 .null h22 n0 Z23 A22 F24 F25 ge_a22) hZ (hw _ (List.mem_of_getElem? (i := 7) rfl)) (hw _ (List.mem_of_getElem? (i := 4) rfl)) (by decide) (by decide)) (g := (mkF m 19 #[.val (.int p0), .val (.int p1), .val (.int p2), .val (.int p3), .val (.int p4), .val (.int p5), .val (.int (1 : Int32)), .val (.int ff), .unset, .unset, .unset] [(.ref a22), (.ref a22)])) rfl (by rw [hml]; rfl) (Steps.refl _) (a := a22) (argsL := []) (rest := [(.ref a22)]) (lenOf own_pd__28__29_V rfl) rfl (by show 2 * 0 + _ ≤ _; exact Nat.le_of_eq rfl) (hb hby at_19) (fun _ _ => ⟨rfl, e22, (by decide : 1 + 1 ≤ _), (by decide : 2 + 4 ≤ _)⟩)
    dsimp only [Pt.U, Pt.locs, Pt.cells, Pt.slots] at X26 l26 y26 z26 st26 hQ26
    rw [l26, y26, z26] at X26
    obtain ⟨b26, k26, rfl, Nq26, K26, f27, f28, f29, f30, f31, f32⟩ := hQ26
    have N26 := Fr.app N0 Nq26
    refine own_Goes.tr st26 ?_
    have ne33 : a22 ≠ b26 := Nat.ne_of_lt (Nat.lt_of_lt_of_le A22.lt f30)
    have ge_b26 : n0 ≤ b26 := Nat.le_trans Z23 f30
    have Z34 : n0 ≤ T26.heap.size := Nat.le_trans Z23 K26.1
    show own_Goes p.tables e below P (T26.setTop (mkF m 22 #[.val (.int p0), .val (.int p1), .val (.int p2), .val (.int p3), .val (.int p4), .val (.int p5), .val (.int (1 : Int32)), .val (.int ff), .unset, .unset, .unset] [(.ref a22)]))
    refine own_Goes.st ?_ (fun _ k => XS.astore X26.here hx rfl (hb hby at_22) rfl rfl (l' := #[.val (.int p0), .val (.int p1), .val (.int p2), .val (.int p3), .val (.int p4), .val (.int p5), .val (.int (1 : Int32)), .val (.int ff), .val (.ref a22), .unset, .unset]) rfl k)
    show own_Goes p.tables e below P (T26.setTop (mkF m 24 #[.val (.int p0), .val (.int p1), .val (.int p2), .val (.int p3), .val (.int p4), .val (.int p5), .val (.int (1 : Int32)), .val (.int ff), .val (.ref a22), .unset, .unset] []))
    refine own_Goes.st ?_ (fun _ k => XS.iload X26.here hx rfl (hb hby at_24) rfl k)
    show own_Goes p.tables e below P (T26.setTop (mkF m 26 #[.val (.int p0), .val (.int p1), .val (.int p2), .val (.int p3), .val (.int p4), .val (.int p5), .val (.int (1 : Int32)), .val (.int ff), .val (.ref a22), .unset, .unset] [(.int (1 : Int32))]))
    refine own_Goes.st ?_ (fun _ k => XS.ifNo X26.here hx rfl (hb hby at_26) rfl ((if0 _ _).trans (tlt (by decide : (0 : Int32) < (1 : Int32))).2.2.2) k)
    show own_Goes p.tables e below P (T26.setTop (mkF m 29 #[.val (.int p0), .val (.int p1), .val (.int p2), .val (.int p3), .val (.int p4), .val (.int p5), .val (.int (1 : Int32)), .val (.int ff), .val (.ref a22), .unset, .unset] []))
    refine own_Goes.st ?_ (fun _ k => XS.aload X26.here hx rfl (hb hby at_29) rfl rfl k)
    show own_Goes p.tables e below P (T26.setTop (mkF m 31 #[.val (.int p0), .val (.int p1), .val (.int p2), .val (.int p3), .val (.int p4), .val (.int p5), .val (.int (1 : Int32)), .val (.int ff), .val (.ref a22), .unset, .unset] [(.ref a22)]))
    refine own_Goes.st ?_ (fun _ k => XS.iloadN X26.here hx rfl (hb hby at_31) rfl k)
    show own_Goes p.tables e below P (T26.setTop (mkF m 32 #[.val (.int p0), .val (.int p1), .val (.int p2), .val (.int p3), .val (.int p4), .val (.int p5), .val (.int (1 : Int32)), .val (.int ff), .val (.ref a22), .unset, .unset] [(.int p1), (.ref a22)]))
    obtain ⟨cq35, kq35, q35a, q35b, q35c⟩ := isOf hZ rfl f27
    obtain ⟨_, _, ⟨T35, L35, k35, n35⟩, -, X35, ⟨Lc35, hQ35, l35, y35, z35⟩, st35⟩ := X26.virtualBack hx (y := (⟨"com/example/usnea/usnea/datalog/IntList", "add", "(I)V"⟩ : MethodName)) (z := (⟨"com/example/usnea/usnea/datalog/IntList", "add", "(I)V"⟩ : MethodName)) hown (mvT hZ (hw _ (List.mem_of_getElem? (i := 38) rfl))) (mvT hZ (hw _ (List.mem_of_getElem? (i := 39) rfl))) (notFace_of_selects (args := #[]) (mvT hZ (hw _ (List.mem_of_getElem? (i := 41) rfl)))) (mvT hZ (hw _ (List.mem_of_getElem? (i := 41) rfl))) (mvT hZ (hw _ (List.mem_of_getElem? (i := 40) rfl))) (by decide) (backOf (W := 0) (rm_add_0 l Z a0 hw [] a22 p1 b26 k26 T26.heap n0 Z34 f27 f28 f29 f31 f32 ge_a22 ge_b26 ne33) hZ (hw _ (List.mem_of_getElem? (i := 42) rfl)) (hw _ (List.mem_of_getElem? (i := 4) rfl)) (by decide) (by decide)) q35a q35c (g := (mkF m 32 #[.val (.int p0), .val (.int p1), .val (.int p2), .val (.int p3), .val (.int p4), .val (.int p5), .val (.int (1 : Int32)), .val (.int ff), .val (.ref a22), .unset, .unset] [(.int p1), (.ref a22)])) rfl (by rw [hml]; rfl) (Steps.refl _) (argsL := [(.int p1)]) (rest := []) (lenOf own_pd__28_I_29_V rfl) rfl (by show 2 * 0 + _ ≤ _; exact Nat.le_of_eq rfl) (hb hby at_32) (fun _ _ => ⟨rfl, rfl, (by decide : 2 + 0 ≤ _), (by decide : 6 + 0 ≤ _)⟩)
    dsimp only [Pt.U, Pt.locs, Pt.cells, Pt.slots] at X35 l35 y35 z35 st35 hQ35
    rw [l35, y35, z35] at X35
    obtain ⟨rfl, Nq35, K35, f36, f37, f38, f39, f40⟩ := hQ35
    have N35 := Fr.app N26 Nq35
    refine own_Goes.tr st35 ?_
    have Z41 : n0 ≤ T35.heap.size := Nat.le_trans Z34 K35.1
    show own_Goes p.tables e below P (T35.setTop (mkF m 35 #[.val (.int p0), .val (.int p1), .val (.int p2), .val (.int p3), .val (.int p4), .val (.int p5), .val (.int (1 : Int32)), .val (.int ff), .val (.ref a22), .unset, .unset] []))
    refine own_Goes.st ?_ (fun _ k => XS.iload X35.here hx rfl (hb hby at_35) rfl k)
    show own_Goes p.tables e below P (T35.setTop (mkF m 37 #[.val (.int p0), .val (.int p1), .val (.int p2), .val (.int p3), .val (.int p4), .val (.int p5), .val (.int (1 : Int32)), .val (.int ff), .val (.ref a22), .unset, .unset] [(.int (1 : Int32))]))
    refine own_Goes.st ?_ (fun _ k => XS.iconst X35.here hx rfl (hb hby at_37) k)
    show own_Goes p.tables e below P (T35.setTop (mkF m 38 #[.val (.int p0), .val (.int p1), .val (.int p2), .val (.int p3), .val (.int p4), .val (.int p5), .val (.int (1 : Int32)), .val (.int ff), .val (.ref a22), .unset, .unset] [(.int (1 : Int32)), (.int (1 : Int32))]))
    refine own_Goes.st ?_ (fun _ k => XS.icmpYes X35.here hx rfl (pc0 := 38) (pc' := 47) rfl (hb hby at_38) rfl (flt (by decide : ¬ ((1 : Int32) < (1 : Int32)))).2.2.2 (by decide) (by decide) k)
    show own_Goes p.tables e below P (T35.setTop (mkF m 47 #[.val (.int p0), .val (.int p1), .val (.int p2), .val (.int p3), .val (.int p4), .val (.int p5), .val (.int (1 : Int32)), .val (.int ff), .val (.ref a22), .unset, .unset] []))
    refine own_Goes.st ?_ (fun _ k => XS.iload X35.here hx rfl (hb hby at_47) rfl k)
    show own_Goes p.tables e below P (T35.setTop (mkF m 49 #[.val (.int p0), .val (.int p1), .val (.int p2), .val (.int p3), .val (.int p4), .val (.int p5), .val (.int (1 : Int32)), .val (.int ff), .val (.ref a22), .unset, .unset] [(.int (1 : Int32))]))
    refine own_Goes.st ?_ (fun _ k => XS.iconst X35.here hx rfl (hb hby at_49) k)
    show own_Goes p.tables e below P (T35.setTop (mkF m 50 #[.val (.int p0), .val (.int p1), .val (.int p2), .val (.int p3), .val (.int p4), .val (.int p5), .val (.int (1 : Int32)), .val (.int ff), .val (.ref a22), .unset, .unset] [(.int (2 : Int32)), (.int (1 : Int32))]))
    refine own_Goes.st ?_ (fun _ k => XS.icmpYes X35.here hx rfl (pc0 := 50) (pc' := 59) rfl (hb hby at_50) rfl (flt (by decide : ¬ ((2 : Int32) < (1 : Int32)))).2.2.2 (by decide) (by decide) k)
    show own_Goes p.tables e below P (T35.setTop (mkF m 59 #[.val (.int p0), .val (.int p1), .val (.int p2), .val (.int p3), .val (.int p4), .val (.int p5), .val (.int (1 : Int32)), .val (.int ff), .val (.ref a22), .unset, .unset] []))
    refine own_Goes.st ?_ (fun _ k => XS.iload X35.here hx rfl (hb hby at_59) rfl k)
    show own_Goes p.tables e below P (T35.setTop (mkF m 61 #[.val (.int p0), .val (.int p1), .val (.int p2), .val (.int p3), .val (.int p4), .val (.int p5), .val (.int (1 : Int32)), .val (.int ff), .val (.ref a22), .unset, .unset] [(.int (1 : Int32))]))
    refine own_Goes.st ?_ (fun _ k => XS.iconst X35.here hx rfl (hb hby at_61) k)
    show own_Goes p.tables e below P (T35.setTop (mkF m 62 #[.val (.int p0), .val (.int p1), .val (.int p2), .val (.int p3), .val (.int p4), .val (.int p5), .val (.int (1 : Int32)), .val (.int ff), .val (.ref a22), .unset, .unset] [(.int (3 : Int32)), (.int (1 : Int32))]))
    refine own_Goes.st ?_ (fun _ k => XS.icmpYes X35.here hx rfl (pc0 := 62) (pc' := 72) rfl (hb hby at_62) rfl (flt (by decide : ¬ ((3 : Int32) < (1 : Int32)))).2.2.2 (by decide) (by decide) k)
    show own_Goes p.tables e below P (T35.setTop (mkF m 72 #[.val (.int p0), .val (.int p1), .val (.int p2), .val (.int p3), .val (.int p4), .val (.int p5), .val (.int (1 : Int32)), .val (.int ff), .val (.ref a22), .unset, .unset] []))
    refine own_Goes.st ?_ (fun _ k => XS.iload X35.here hx rfl (hb hby at_72) rfl k)
    show own_Goes p.tables e below P (T35.setTop (mkF m 74 #[.val (.int p0), .val (.int p1), .val (.int p2), .val (.int p3), .val (.int p4), .val (.int p5), .val (.int (1 : Int32)), .val (.int ff), .val (.ref a22), .unset, .unset] [(.int (1 : Int32))]))
    refine own_Goes.st ?_ (fun _ k => XS.iconst X35.here hx rfl (hb hby at_74) k)
    show own_Goes p.tables e below P (T35.setTop (mkF m 75 #[.val (.int p0), .val (.int p1), .val (.int p2), .val (.int p3), .val (.int p4), .val (.int p5), .val (.int (1 : Int32)), .val (.int ff), .val (.ref a22), .unset, .unset] [(.int (4 : Int32)), (.int (1 : Int32))]))
    refine own_Goes.st ?_ (fun _ k => XS.icmpYes X35.here hx rfl (pc0 := 75) (pc' := 85) rfl (hb hby at_75) rfl (flt (by decide : ¬ ((4 : Int32) < (1 : Int32)))).2.2.2 (by decide) (by decide) k)
    show own_Goes p.tables e below P (T35.setTop (mkF m 85 #[.val (.int p0), .val (.int p1), .val (.int p2), .val (.int p3), .val (.int p4), .val (.int p5), .val (.int (1 : Int32)), .val (.int ff), .val (.ref a22), .unset, .unset] []))
    refine own_Goes.st ?_ (fun _ k => XS.iload X35.here hx rfl (hb hby at_85) rfl k)
    show own_Goes p.tables e below P (T35.setTop (mkF m 87 #[.val (.int p0), .val (.int p1), .val (.int p2), .val (.int p3), .val (.int p4), .val (.int p5), .val (.int (1 : Int32)), .val (.int ff), .val (.ref a22), .unset, .unset] [(.int (1 : Int32))]))
    refine own_Goes.st ?_ (fun _ k => XS.iconst X35.here hx rfl (hb hby at_87) k)
    show own_Goes p.tables e below P (T35.setTop (mkF m 88 #[.val (.int p0), .val (.int p1), .val (.int p2), .val (.int p3), .val (.int p4), .val (.int p5), .val (.int (1 : Int32)), .val (.int ff), .val (.ref a22), .unset, .unset] [(.int (5 : Int32)), (.int (1 : Int32))]))
    refine own_Goes.st ?_ (fun _ k => XS.icmpYes X35.here hx rfl (pc0 := 88) (pc' := 98) rfl (hb hby at_88) rfl (flt (by decide : ¬ ((5 : Int32) < (1 : Int32)))).2.2.2 (by decide) (by decide) k)
    show own_Goes p.tables e below P (T35.setTop (mkF m 98 #[.val (.int p0), .val (.int p1), .val (.int p2), .val (.int p3), .val (.int p4), .val (.int p5), .val (.int (1 : Int32)), .val (.int ff), .val (.ref a22), .unset, .unset] []))
    refine own_Goes.st ?_ (fun _ k => XS.aload X35.here hx rfl (hb hby at_98) rfl rfl k)
    show own_Goes p.tables e below P (T35.setTop (mkF m 100 #[.val (.int p0), .val (.int p1), .val (.int p2), .val (.int p3), .val (.int p4), .val (.int p5), .val (.int (1 : Int32)), .val (.int ff), .val (.ref a22), .unset, .unset] [(.ref a22)]))
    obtain ⟨cq42, kq42, q42a, q42b, q42c⟩ := isOf hZ rfl f36
    obtain ⟨_, _, ⟨T42, L42, k42, n42⟩, -, X42, ⟨Lc42, hQ42, l42, y42, z42⟩, st42⟩ := X35.virtualBack hx (y := (⟨"com/example/usnea/usnea/datalog/IntList", "size", "()I"⟩ : MethodName)) (z := (⟨"com/example/usnea/usnea/datalog/IntList", "size", "()I"⟩ : MethodName)) hown (mvT hZ (hw _ (List.mem_of_getElem? (i := 14) rfl))) (mvT hZ (hw _ (List.mem_of_getElem? (i := 15) rfl))) (notFace_of_selects (args := #[]) (mvT hZ (hw _ (List.mem_of_getElem? (i := 17) rfl)))) (mvT hZ (hw _ (List.mem_of_getElem? (i := 17) rfl))) (mvT hZ (hw _ (List.mem_of_getElem? (i := 16) rfl))) (by decide) (backOf (W := 0) (rm_size l Z a0 hw [] a22 (1 : Int32) T35.heap n0 Z41 f38) hZ (hw _ (List.mem_of_getElem? (i := 18) rfl)) (hw _ (List.mem_of_getElem? (i := 4) rfl)) (by decide) (by decide)) q42a q42c (g := (mkF m 100 #[.val (.int p0), .val (.int p1), .val (.int p2), .val (.int p3), .val (.int p4), .val (.int p5), .val (.int (1 : Int32)), .val (.int ff), .val (.ref a22), .unset, .unset] [(.ref a22)])) rfl (by rw [hml]; rfl) (Steps.refl _) (argsL := []) (rest := []) (lenOf own_pd__28__29_I rfl) rfl (by show 2 * 0 + _ ≤ _; exact Nat.le_of_eq rfl) (hb hby at_100) (fun _ _ => ⟨rfl, rfl, (by decide : 2 + 0 ≤ _), (by decide : 6 + 0 ≤ _)⟩)
    dsimp only [Pt.U, Pt.locs, Pt.cells, Pt.slots] at X42 l42 y42 z42 st42 hQ42
    rw [l42, y42, z42] at X42
    obtain ⟨rfl, Nq42, e42⟩ := hQ42
    have N42 := Fr.app N35 Nq42
    refine own_Goes.tr st42 ?_
    show own_Goes p.tables e below P (T42.setTop (mkF m 103 #[.val (.int p0), .val (.int p1), .val (.int p2), .val (.int p3), .val (.int p4), .val (.int p5), .val (.int (1 : Int32)), .val (.int ff), .val (.ref a22), .unset, .unset] [(.int (1 : Int32))]))
    refine own_Goes.st ?_ (fun _ k => XS.iload X42.here hx rfl (hb hby at_103) rfl k)
    show own_Goes p.tables e below P (T42.setTop (mkF m 105 #[.val (.int p0), .val (.int p1), .val (.int p2), .val (.int p3), .val (.int p4), .val (.int p5), .val (.int (1 : Int32)), .val (.int ff), .val (.ref a22), .unset, .unset] [(.int (1 : Int32)), (.int (1 : Int32))]))
    refine own_Goes.st ?_ (fun _ k => XS.icmpYes X42.here hx rfl (pc0 := 105) (pc' := 110) rfl (hb hby at_105) rfl (teq (by decide : (1 : Int32) = (1 : Int32))).1 (by decide) (by decide) k)
    show own_Goes p.tables e below P (T42.setTop (mkF m 110 #[.val (.int p0), .val (.int p1), .val (.int p2), .val (.int p3), .val (.int p4), .val (.int p5), .val (.int (1 : Int32)), .val (.int ff), .val (.ref a22), .unset, .unset] []))
    refine own_Goes.st ?_ (fun _ k => XS.aload X42.here hx rfl (hb hby at_110) rfl rfl k)
    show own_Goes p.tables e below P (T42.setTop (mkF m 112 #[.val (.int p0), .val (.int p1), .val (.int p2), .val (.int p3), .val (.int p4), .val (.int p5), .val (.int (1 : Int32)), .val (.int ff), .val (.ref a22), .unset, .unset] [(.ref a22)]))
    obtain ⟨cq43, kq43, q43a, q43b, q43c⟩ := isOf hZ e42 f36
    obtain ⟨_, _, ⟨T43, L43, k43, n43⟩, -, X43, ⟨Lc43, hQ43, l43, y43, z43⟩, st43⟩ := X42.virtualBack hx (y := (⟨"com/example/usnea/usnea/datalog/IntList", "toArray", "()[I"⟩ : MethodName)) (z := (⟨"com/example/usnea/usnea/datalog/IntList", "toArray", "()[I"⟩ : MethodName)) hown (mvT hZ (hw _ (List.mem_of_getElem? (i := 21) rfl))) (mvT hZ (hw _ (List.mem_of_getElem? (i := 22) rfl))) (notFace_of_selects (args := #[]) (mvT hZ (hw _ (List.mem_of_getElem? (i := 24) rfl)))) (mvT hZ (hw _ (List.mem_of_getElem? (i := 24) rfl))) (mvT hZ (hw _ (List.mem_of_getElem? (i := 23) rfl))) (by decide) (backOf (W := 0) (rm_toarr_1 l Z a0 hw [] a22 b26 k26 p1 T35.heap n0 Z41 f37 f38 f39 f40) hZ (hw _ (List.mem_of_getElem? (i := 25) rfl)) (hw _ (List.mem_of_getElem? (i := 4) rfl)) (by decide) (by decide)) q43a q43c (g := (mkF m 112 #[.val (.int p0), .val (.int p1), .val (.int p2), .val (.int p3), .val (.int p4), .val (.int p5), .val (.int (1 : Int32)), .val (.int ff), .val (.ref a22), .unset, .unset] [(.ref a22)])) rfl (by rw [hml]; rfl) (Steps.refl _) (argsL := []) (rest := []) (lenOf own_pd__28__29__5b_I rfl) rfl (by show 2 * 0 + _ ≤ _; exact Nat.le_of_eq rfl) (hb hby at_112) (fun _ _ => ⟨rfl, e42, (by decide : 2 + 1 ≤ _), (by decide : 6 + 1 ≤ _)⟩)
    dsimp only [Pt.U, Pt.locs, Pt.cells, Pt.slots] at X43 l43 y43 z43 st43 hQ43
    rw [l43, y43, z43] at X43
    obtain ⟨r43, q43, rfl, Nq43, K43, f44, f45⟩ := hQ43
    have N43 := Fr.app N42 Nq43
    refine own_Goes.tr st43 ?_
    have ne46 : a22 ≠ r43 := Nat.ne_of_lt (Nat.lt_of_lt_of_le f36.lt f44)
    have ne47 : b26 ≠ r43 := Nat.ne_of_lt (Nat.lt_of_lt_of_le f40.lt f44)
    have ge_r43 : n0 ≤ r43 := Nat.le_trans Z41 f44
    have Z48 : n0 ≤ T43.heap.size := Nat.le_trans Z41 K43.1
    show own_Goes p.tables e below P (T43.setTop (mkF m 115 #[.val (.int p0), .val (.int p1), .val (.int p2), .val (.int p3), .val (.int p4), .val (.int p5), .val (.int (1 : Int32)), .val (.int ff), .val (.ref a22), .unset, .unset] [(.ref r43)]))
    refine own_Goes.st ?_ (fun _ k => XS.astore X43.here hx rfl (hb hby at_115) rfl rfl (l' := #[.val (.int p0), .val (.int p1), .val (.int p2), .val (.int p3), .val (.int p4), .val (.int p5), .val (.int (1 : Int32)), .val (.int ff), .val (.ref a22), .val (.ref r43), .unset]) rfl k)
    show own_Goes p.tables e below P (T43.setTop (mkF m 117 #[.val (.int p0), .val (.int p1), .val (.int p2), .val (.int p3), .val (.int p4), .val (.int p5), .val (.int (1 : Int32)), .val (.int ff), .val (.ref a22), .val (.ref r43), .unset] []))
    refine own_Goes.st ?_ (fun _ k => XS.aload X43.here hx rfl (hb hby at_117) rfl rfl k)
    show own_Goes p.tables e below P (T43.setTop (mkF m 119 #[.val (.int p0), .val (.int p1), .val (.int p2), .val (.int p3), .val (.int p4), .val (.int p5), .val (.int (1 : Int32)), .val (.int ff), .val (.ref a22), .val (.ref r43), .unset] [(.ref r43)]))
    have Vc49 := f45
    obtain ⟨cl49, Ar49, qc49, S49, Nn49, Hs49, Gs49⟩ := Vc49
    refine own_Goes.st ?_ (X43.arraylength hx Ar49.1 (State.isArrayOf_alike hZ.alike Ar49.2.1) (g := (mkF m 119 #[.val (.int p0), .val (.int p1), .val (.int p2), .val (.int p3), .val (.int p4), .val (.int p5), .val (.int (1 : Int32)), .val (.int ff), .val (.ref a22), .val (.ref r43), .unset] [(.ref r43)])) rfl rfl (hb hby at_119))
    rw [len_of S49 Nn49]
    show own_Goes p.tables e below P (T43.setTop (mkF m 120 #[.val (.int p0), .val (.int p1), .val (.int p2), .val (.int p3), .val (.int p4), .val (.int p5), .val (.int (1 : Int32)), .val (.int ff), .val (.ref a22), .val (.ref r43), .unset] [(.int (1 : Int32))]))
    refine own_Goes.st ?_ (fun _ k => XS.iload X43.here hx rfl (hb hby at_120) rfl k)
    show own_Goes p.tables e below P (T43.setTop (mkF m 122 #[.val (.int p0), .val (.int p1), .val (.int p2), .val (.int p3), .val (.int p4), .val (.int p5), .val (.int (1 : Int32)), .val (.int ff), .val (.ref a22), .val (.ref r43), .unset] [(.int (1 : Int32)), (.int (1 : Int32))]))
    refine own_Goes.st ?_ (fun _ k => XS.icmpYes X43.here hx rfl (pc0 := 122) (pc' := 127) rfl (hb hby at_122) rfl (teq (by decide : (1 : Int32) = (1 : Int32))).1 (by decide) (by decide) k)
    show own_Goes p.tables e below P (T43.setTop (mkF m 127 #[.val (.int p0), .val (.int p1), .val (.int p2), .val (.int p3), .val (.int p4), .val (.int p5), .val (.int (1 : Int32)), .val (.int ff), .val (.ref a22), .val (.ref r43), .unset] []))
    refine own_Goes.st ?_ (fun _ k => XS.iconst X43.here hx rfl (hb hby at_127) k)
    show own_Goes p.tables e below P (T43.setTop (mkF m 128 #[.val (.int p0), .val (.int p1), .val (.int p2), .val (.int p3), .val (.int p4), .val (.int p5), .val (.int (1 : Int32)), .val (.int ff), .val (.ref a22), .val (.ref r43), .unset] [(.int (1 : Int32))]))
    refine own_Goes.st ?_ (fun _ k => XS.istore X43.here hx rfl (hb hby at_128) rfl (l' := #[.val (.int p0), .val (.int p1), .val (.int p2), .val (.int p3), .val (.int p4), .val (.int p5), .val (.int (1 : Int32)), .val (.int ff), .val (.ref a22), .val (.ref r43), .val (.int (1 : Int32))]) rfl k)
    show own_Goes p.tables e below P (T43.setTop (mkF m 130 #[.val (.int p0), .val (.int p1), .val (.int p2), .val (.int p3), .val (.int p4), .val (.int p5), .val (.int (1 : Int32)), .val (.int ff), .val (.ref a22), .val (.ref r43), .val (.int (1 : Int32))] []))
    refine own_Goes.st ?_ (fun _ k => XS.iload X43.here hx rfl (hb hby at_130) rfl k)
    show own_Goes p.tables e below P (T43.setTop (mkF m 132 #[.val (.int p0), .val (.int p1), .val (.int p2), .val (.int p3), .val (.int p4), .val (.int p5), .val (.int (1 : Int32)), .val (.int ff), .val (.ref a22), .val (.ref r43), .val (.int (1 : Int32))] [(.int (1 : Int32))]))
    refine own_Goes.st ?_ (fun _ k => XS.ifNo X43.here hx rfl (hb hby at_132) rfl ((if0 _ _).trans (tlt (by decide : (0 : Int32) < (1 : Int32))).2.2.2) k)
    show own_Goes p.tables e below P (T43.setTop (mkF m 135 #[.val (.int p0), .val (.int p1), .val (.int p2), .val (.int p3), .val (.int p4), .val (.int p5), .val (.int (1 : Int32)), .val (.int ff), .val (.ref a22), .val (.ref r43), .val (.int (1 : Int32))] []))
    refine own_Goes.st ?_ (fun _ k => XS.iload X43.here hx rfl (hb hby at_135) rfl k)
    show own_Goes p.tables e below P (T43.setTop (mkF m 137 #[.val (.int p0), .val (.int p1), .val (.int p2), .val (.int p3), .val (.int p4), .val (.int p5), .val (.int (1 : Int32)), .val (.int ff), .val (.ref a22), .val (.ref r43), .val (.int (1 : Int32))] [(.int (1 : Int32))]))
    refine own_Goes.st ?_ (fun _ k => XS.ifNo X43.here hx rfl (hb hby at_137) rfl ((if0 _ _).trans (feq (by decide : ¬ ((1 : Int32) = (0 : Int32)))).1) k)
    show own_Goes p.tables e below P (T43.setTop (mkF m 140 #[.val (.int p0), .val (.int p1), .val (.int p2), .val (.int p3), .val (.int p4), .val (.int p5), .val (.int (1 : Int32)), .val (.int ff), .val (.ref a22), .val (.ref r43), .val (.int (1 : Int32))] []))
    refine own_Goes.st ?_ (fun _ k => XS.aload X43.here hx rfl (hb hby at_140) rfl rfl k)
    show own_Goes p.tables e below P (T43.setTop (mkF m 142 #[.val (.int p0), .val (.int p1), .val (.int p2), .val (.int p3), .val (.int p4), .val (.int p5), .val (.int (1 : Int32)), .val (.int ff), .val (.ref a22), .val (.ref r43), .val (.int (1 : Int32))] [(.ref r43)]))
    refine own_Goes.st ?_ (fun _ k => XS.iconst X43.here hx rfl (hb hby at_142) k)
    show own_Goes p.tables e below P (T43.setTop (mkF m 143 #[.val (.int p0), .val (.int p1), .val (.int p2), .val (.int p3), .val (.int p4), .val (.int p5), .val (.int (1 : Int32)), .val (.int ff), .val (.ref a22), .val (.ref r43), .val (.int (1 : Int32))] [(.int (0 : Int32)), (.ref r43)]))
    have hin50 : ¬ ((0 : Int32) < 0 ∨ cl49.slots.size ≤ ((0 : Int32)).toNatClampNeg) := inb_of S49 ⟨by decide, by decide⟩
    refine own_Goes.st ?_ (X43.iaload hx (j := (0 : Int32)) (v := (.int p1)) Ar49.1 (State.isArrayOf_alike hZ.alike Ar49.2.1) Ar49.2.2 hin50 (Has.at Hs49 hin50 rfl) (g := (mkF m 143 #[.val (.int p0), .val (.int p1), .val (.int p2), .val (.int p3), .val (.int p4), .val (.int p5), .val (.int (1 : Int32)), .val (.int ff), .val (.ref a22), .val (.ref r43), .val (.int (1 : Int32))] [(.int (0 : Int32)), (.ref r43)])) rfl rfl (hb hby at_143))
    show own_Goes p.tables e below P (T43.setTop (mkF m 144 #[.val (.int p0), .val (.int p1), .val (.int p2), .val (.int p3), .val (.int p4), .val (.int p5), .val (.int (1 : Int32)), .val (.int ff), .val (.ref a22), .val (.ref r43), .val (.int (1 : Int32))] [(.int p1)]))
    refine own_Goes.st ?_ (fun _ k => XS.iloadN X43.here hx rfl (hb hby at_144) rfl k)
    show own_Goes p.tables e below P (T43.setTop (mkF m 145 #[.val (.int p0), .val (.int p1), .val (.int p2), .val (.int p3), .val (.int p4), .val (.int p5), .val (.int (1 : Int32)), .val (.int ff), .val (.ref a22), .val (.ref r43), .val (.int (1 : Int32))] [(.int p1), (.int p1)]))
    refine own_Goes.st ?_ (fun _ k => XS.icmpNo X43.here hx rfl (hb hby at_145) rfl (teq (rfl : p1 = p1)).2 k)
    show own_Goes p.tables e below P (T43.setTop (mkF m 148 #[.val (.int p0), .val (.int p1), .val (.int p2), .val (.int p3), .val (.int p4), .val (.int p5), .val (.int (1 : Int32)), .val (.int ff), .val (.ref a22), .val (.ref r43), .val (.int (1 : Int32))] []))
    refine own_Goes.st ?_ (fun _ k => XS.iconst X43.here hx rfl (hb hby at_148) k)
    show own_Goes p.tables e below P (T43.setTop (mkF m 149 #[.val (.int p0), .val (.int p1), .val (.int p2), .val (.int p3), .val (.int p4), .val (.int p5), .val (.int (1 : Int32)), .val (.int ff), .val (.ref a22), .val (.ref r43), .val (.int (1 : Int32))] [(.int (1 : Int32))]))
    refine own_Goes.st ?_ (fun _ k => XS.goto X43.here hx rfl (pc0 := 149) (pc' := 153) rfl (hb hby at_149) (by decide) (by decide) k)
    show own_Goes p.tables e below P (T43.setTop (mkF m 153 #[.val (.int p0), .val (.int p1), .val (.int p2), .val (.int p3), .val (.int p4), .val (.int p5), .val (.int (1 : Int32)), .val (.int ff), .val (.ref a22), .val (.ref r43), .val (.int (1 : Int32))] [(.int (1 : Int32))]))
    refine own_Goes.st ?_ (fun _ k => XS.istore X43.here hx rfl (hb hby at_153) rfl (l' := #[.val (.int p0), .val (.int p1), .val (.int p2), .val (.int p3), .val (.int p4), .val (.int p5), .val (.int (1 : Int32)), .val (.int ff), .val (.ref a22), .val (.ref r43), .val (.int (1 : Int32))]) rfl k)
    show own_Goes p.tables e below P (T43.setTop (mkF m 155 #[.val (.int p0), .val (.int p1), .val (.int p2), .val (.int p3), .val (.int p4), .val (.int p5), .val (.int (1 : Int32)), .val (.int ff), .val (.ref a22), .val (.ref r43), .val (.int (1 : Int32))] []))
    refine own_Goes.st ?_ (fun _ k => XS.iload X43.here hx rfl (hb hby at_155) rfl k)
    show own_Goes p.tables e below P (T43.setTop (mkF m 157 #[.val (.int p0), .val (.int p1), .val (.int p2), .val (.int p3), .val (.int p4), .val (.int p5), .val (.int (1 : Int32)), .val (.int ff), .val (.ref a22), .val (.ref r43), .val (.int (1 : Int32))] [(.int (1 : Int32))]))
    refine own_Goes.st ?_ (fun _ k => XS.iconst X43.here hx rfl (hb hby at_157) k)
    show own_Goes p.tables e below P (T43.setTop (mkF m 158 #[.val (.int p0), .val (.int p1), .val (.int p2), .val (.int p3), .val (.int p4), .val (.int p5), .val (.int (1 : Int32)), .val (.int ff), .val (.ref a22), .val (.ref r43), .val (.int (1 : Int32))] [(.int (1 : Int32)), (.int (1 : Int32))]))
    refine own_Goes.st ?_ (fun _ k => XS.icmpYes X43.here hx rfl (pc0 := 158) (pc' := 181) rfl (hb hby at_158) rfl (flt (by decide : ¬ ((1 : Int32) < (1 : Int32)))).2.2.2 (by decide) (by decide) k)
    show own_Goes p.tables e below P (T43.setTop (mkF m 181 #[.val (.int p0), .val (.int p1), .val (.int p2), .val (.int p3), .val (.int p4), .val (.int p5), .val (.int (1 : Int32)), .val (.int ff), .val (.ref a22), .val (.ref r43), .val (.int (1 : Int32))] []))
    refine own_Goes.st ?_ (fun _ k => XS.iload X43.here hx rfl (hb hby at_181) rfl k)
    show own_Goes p.tables e below P (T43.setTop (mkF m 183 #[.val (.int p0), .val (.int p1), .val (.int p2), .val (.int p3), .val (.int p4), .val (.int p5), .val (.int (1 : Int32)), .val (.int ff), .val (.ref a22), .val (.ref r43), .val (.int (1 : Int32))] [(.int (1 : Int32))]))
    refine own_Goes.st ?_ (fun _ k => XS.iconst X43.here hx rfl (hb hby at_183) k)
    show own_Goes p.tables e below P (T43.setTop (mkF m 184 #[.val (.int p0), .val (.int p1), .val (.int p2), .val (.int p3), .val (.int p4), .val (.int p5), .val (.int (1 : Int32)), .val (.int ff), .val (.ref a22), .val (.ref r43), .val (.int (1 : Int32))] [(.int (2 : Int32)), (.int (1 : Int32))]))
    refine own_Goes.st ?_ (fun _ k => XS.icmpYes X43.here hx rfl (pc0 := 184) (pc' := 207) rfl (hb hby at_184) rfl (flt (by decide : ¬ ((2 : Int32) < (1 : Int32)))).2.2.2 (by decide) (by decide) k)
    show own_Goes p.tables e below P (T43.setTop (mkF m 207 #[.val (.int p0), .val (.int p1), .val (.int p2), .val (.int p3), .val (.int p4), .val (.int p5), .val (.int (1 : Int32)), .val (.int ff), .val (.ref a22), .val (.ref r43), .val (.int (1 : Int32))] []))
    refine own_Goes.st ?_ (fun _ k => XS.iload X43.here hx rfl (hb hby at_207) rfl k)
    show own_Goes p.tables e below P (T43.setTop (mkF m 209 #[.val (.int p0), .val (.int p1), .val (.int p2), .val (.int p3), .val (.int p4), .val (.int p5), .val (.int (1 : Int32)), .val (.int ff), .val (.ref a22), .val (.ref r43), .val (.int (1 : Int32))] [(.int (1 : Int32))]))
    refine own_Goes.st ?_ (fun _ k => XS.iconst X43.here hx rfl (hb hby at_209) k)
    show own_Goes p.tables e below P (T43.setTop (mkF m 210 #[.val (.int p0), .val (.int p1), .val (.int p2), .val (.int p3), .val (.int p4), .val (.int p5), .val (.int (1 : Int32)), .val (.int ff), .val (.ref a22), .val (.ref r43), .val (.int (1 : Int32))] [(.int (3 : Int32)), (.int (1 : Int32))]))
    refine own_Goes.st ?_ (fun _ k => XS.icmpYes X43.here hx rfl (pc0 := 210) (pc' := 234) rfl (hb hby at_210) rfl (flt (by decide : ¬ ((3 : Int32) < (1 : Int32)))).2.2.2 (by decide) (by decide) k)
    show own_Goes p.tables e below P (T43.setTop (mkF m 234 #[.val (.int p0), .val (.int p1), .val (.int p2), .val (.int p3), .val (.int p4), .val (.int p5), .val (.int (1 : Int32)), .val (.int ff), .val (.ref a22), .val (.ref r43), .val (.int (1 : Int32))] []))
    refine own_Goes.st ?_ (fun _ k => XS.iload X43.here hx rfl (hb hby at_234) rfl k)
    show own_Goes p.tables e below P (T43.setTop (mkF m 236 #[.val (.int p0), .val (.int p1), .val (.int p2), .val (.int p3), .val (.int p4), .val (.int p5), .val (.int (1 : Int32)), .val (.int ff), .val (.ref a22), .val (.ref r43), .val (.int (1 : Int32))] [(.int (1 : Int32))]))
    refine own_Goes.st ?_ (fun _ k => XS.iconst X43.here hx rfl (hb hby at_236) k)
    show own_Goes p.tables e below P (T43.setTop (mkF m 237 #[.val (.int p0), .val (.int p1), .val (.int p2), .val (.int p3), .val (.int p4), .val (.int p5), .val (.int (1 : Int32)), .val (.int ff), .val (.ref a22), .val (.ref r43), .val (.int (1 : Int32))] [(.int (4 : Int32)), (.int (1 : Int32))]))
    refine own_Goes.st ?_ (fun _ k => XS.icmpYes X43.here hx rfl (pc0 := 237) (pc' := 261) rfl (hb hby at_237) rfl (flt (by decide : ¬ ((4 : Int32) < (1 : Int32)))).2.2.2 (by decide) (by decide) k)
    show own_Goes p.tables e below P (T43.setTop (mkF m 261 #[.val (.int p0), .val (.int p1), .val (.int p2), .val (.int p3), .val (.int p4), .val (.int p5), .val (.int (1 : Int32)), .val (.int ff), .val (.ref a22), .val (.ref r43), .val (.int (1 : Int32))] []))
    refine own_Goes.st ?_ (fun _ k => XS.iload X43.here hx rfl (hb hby at_261) rfl k)
    show own_Goes p.tables e below P (T43.setTop (mkF m 263 #[.val (.int p0), .val (.int p1), .val (.int p2), .val (.int p3), .val (.int p4), .val (.int p5), .val (.int (1 : Int32)), .val (.int ff), .val (.ref a22), .val (.ref r43), .val (.int (1 : Int32))] [(.int (1 : Int32))]))
    refine own_Goes.st ?_ (fun _ k => XS.iconst X43.here hx rfl (hb hby at_263) k)
    show own_Goes p.tables e below P (T43.setTop (mkF m 264 #[.val (.int p0), .val (.int p1), .val (.int p2), .val (.int p3), .val (.int p4), .val (.int p5), .val (.int (1 : Int32)), .val (.int ff), .val (.ref a22), .val (.ref r43), .val (.int (1 : Int32))] [(.int (5 : Int32)), (.int (1 : Int32))]))
    refine own_Goes.st ?_ (fun _ k => XS.icmpYes X43.here hx rfl (pc0 := 264) (pc' := 288) rfl (hb hby at_264) rfl (flt (by decide : ¬ ((5 : Int32) < (1 : Int32)))).2.2.2 (by decide) (by decide) k)
    show own_Goes p.tables e below P (T43.setTop (mkF m 288 #[.val (.int p0), .val (.int p1), .val (.int p2), .val (.int p3), .val (.int p4), .val (.int p5), .val (.int (1 : Int32)), .val (.int ff), .val (.ref a22), .val (.ref r43), .val (.int (1 : Int32))] []))
    refine own_Goes.st ?_ (fun _ k => XS.iload X43.here hx rfl (hb hby at_288) rfl k)
    show own_Goes p.tables e below P (T43.setTop (mkF m 290 #[.val (.int p0), .val (.int p1), .val (.int p2), .val (.int p3), .val (.int p4), .val (.int p5), .val (.int (1 : Int32)), .val (.int ff), .val (.ref a22), .val (.ref r43), .val (.int (1 : Int32))] [(.int (1 : Int32))]))
    obtain ⟨fs, hr, hrun, hended, hW, hsame⟩ := X43.leave (v := some (.int (1 : Int32))) (fun h => by rw [Bd.returns] at h; cases h)
    exact own_Goes.fin _ _ (retOut X43 hx (t := .boolean) Bd.returns rfl (Or.inl ⟨rfl, Or.inr (Or.inl rfl), _, rfl⟩) (hb hby at_290) hr) (hPP _ _ ⟨hrun, hended, _, _, rfl, (by show Q_law n0 _ _; exact ⟨rfl, N43⟩), ⟨_, rfl⟩, hW, hsame.mono (by decide) (by decide)⟩)
  · skip
    show own_Goes p.tables e below P (s₁.setTop (mkF m 15 #[.val (.int p0), .val (.int p1), .val (.int p2), .val (.int p3), .val (.int p4), .val (.int p5), .val (.int (2 : Int32)), .val (.int ff), .unset, .unset, .unset] []))
    obtain ⟨T51, h51, X51, e51, E51, A51, D51, -, st51⟩ := newO X0 hx hZ hown (hw _ (List.mem_of_getElem? (i := 2) rfl)) (hw _ (List.mem_of_getElem? (i := 3) rfl)) (hw _ (List.mem_of_getElem? (i := 4) rfl)) e0 (g := (mkF m 15 #[.val (.int p0), .val (.int p1), .val (.int p2), .val (.int p3), .val (.int p4), .val (.int p5), .val (.int (2 : Int32)), .val (.int ff), .unset, .unset, .unset] [])) rfl (hb hby at_15) (by decide) (by decide)
    obtain ⟨a51, g51⟩ : ∃ z, z = h0.size := ⟨_, rfl⟩
    rw [← g51] at A51 D51 st51
    have ge_a51 : n0 ≤ a51 := Nat.le_trans Z0 (Nat.le_of_eq g51.symm)
    refine own_Goes.st ?_ st51
    have Z52 : n0 ≤ h51.size := Nat.le_trans Z0 E51.1
    have F53 : Fld Z h51 a51 "com/example/usnea/usnea/datalog/IntList" "values" "[I" .null := D51 (Or.inl (hw _ (List.mem_of_getElem? (i := 13) rfl))) (ty := (.array .int)) (by decide)
    have F54 : Fld Z h51 a51 "com/example/usnea/usnea/datalog/IntList" "size" "I" (.int (0 : Int32)) := D51 (Or.inl (hw _ (List.mem_of_getElem? (i := 20) rfl))) (ty := .int) (by decide)
    show own_Goes p.tables e below P (T51.setTop (mkF m 18 #[.val (.int p0), .val (.int p1), .val (.int p2), .val (.int p3), .val (.int p4), .val (.int p5), .val (.int (2 : Int32)), .val (.int ff), .unset, .unset, .unset] [(.ref a51)]))
    refine own_Goes.st ?_ (fun _ k => XS.dup X51.here hx rfl (hb hby at_18) rfl rfl k)
    show own_Goes p.tables e below P (T51.setTop (mkF m 19 #[.val (.int p0), .val (.int p1), .val (.int p2), .val (.int p3), .val (.int p4), .val (.int p5), .val (.int (2 : Int32)), .val (.int ff), .unset, .unset, .unset] [(.ref a51), (.ref a51)]))
    obtain ⟨_, _, ⟨T55, L55, k55, n55⟩, -, X55, ⟨Lc55, hQ55, l55, y55, z55⟩, st55⟩ := X51.specialBack hx (y := (⟨"com/example/usnea/usnea/datalog/IntList", "<init>", "()V"⟩ : MethodName)) rfl hown (mvT hZ (hw _ (List.mem_of_getElem? (i := 5) rfl))) (mvT hZ (hw _ (List.mem_of_getElem? (i := 6) rfl))) (mvT hZ (hw _ (List.mem_of_getElem? (i := 7) rfl))) (by decide) (backOf (W := 1) (rm_ctor l Z a0 hw [] a51 .null h51 n0 Z52 A51 F53 F54 ge_a51) hZ (hw _ (List.mem_of_getElem? (i := 7) rfl)) (hw _ (List.mem_of_getElem? (i := 4) rfl)) (by decide) (by decide)) (g := (mkF m 19 #[.val (.int p0), .val (.int p1), .val (.int p2), .val (.int p3), .val (.int p4), .val (.int p5), .val (.int (2 : Int32)), .val (.int ff), .unset, .unset, .unset] [(.ref a51), (.ref a51)])) rfl (by rw [hml]; rfl) (Steps.refl _) (a := a51) (argsL := []) (rest := [(.ref a51)]) (lenOf own_pd__28__29_V rfl) rfl (by show 2 * 0 + _ ≤ _; exact Nat.le_of_eq rfl) (hb hby at_19) (fun _ _ => ⟨rfl, e51, (by decide : 1 + 1 ≤ _), (by decide : 2 + 4 ≤ _)⟩)
    dsimp only [Pt.U, Pt.locs, Pt.cells, Pt.slots] at X55 l55 y55 z55 st55 hQ55
    rw [l55, y55, z55] at X55
    obtain ⟨b55, k55, rfl, Nq55, K55, f56, f57, f58, f59, f60, f61⟩ := hQ55
    have N55 := Fr.app N0 Nq55
    refine own_Goes.tr st55 ?_
    have ne62 : a51 ≠ b55 := Nat.ne_of_lt (Nat.lt_of_lt_of_le A51.lt f59)
    have ge_b55 : n0 ≤ b55 := Nat.le_trans Z52 f59
    have Z63 : n0 ≤ T55.heap.size := Nat.le_trans Z52 K55.1
    show own_Goes p.tables e below P (T55.setTop (mkF m 22 #[.val (.int p0), .val (.int p1), .val (.int p2), .val (.int p3), .val (.int p4), .val (.int p5), .val (.int (2 : Int32)), .val (.int ff), .unset, .unset, .unset] [(.ref a51)]))
    refine own_Goes.st ?_ (fun _ k => XS.astore X55.here hx rfl (hb hby at_22) rfl rfl (l' := #[.val (.int p0), .val (.int p1), .val (.int p2), .val (.int p3), .val (.int p4), .val (.int p5), .val (.int (2 : Int32)), .val (.int ff), .val (.ref a51), .unset, .unset]) rfl k)
    show own_Goes p.tables e below P (T55.setTop (mkF m 24 #[.val (.int p0), .val (.int p1), .val (.int p2), .val (.int p3), .val (.int p4), .val (.int p5), .val (.int (2 : Int32)), .val (.int ff), .val (.ref a51), .unset, .unset] []))
    refine own_Goes.st ?_ (fun _ k => XS.iload X55.here hx rfl (hb hby at_24) rfl k)
    show own_Goes p.tables e below P (T55.setTop (mkF m 26 #[.val (.int p0), .val (.int p1), .val (.int p2), .val (.int p3), .val (.int p4), .val (.int p5), .val (.int (2 : Int32)), .val (.int ff), .val (.ref a51), .unset, .unset] [(.int (2 : Int32))]))
    refine own_Goes.st ?_ (fun _ k => XS.ifNo X55.here hx rfl (hb hby at_26) rfl ((if0 _ _).trans (tlt (by decide : (0 : Int32) < (2 : Int32))).2.2.2) k)
    show own_Goes p.tables e below P (T55.setTop (mkF m 29 #[.val (.int p0), .val (.int p1), .val (.int p2), .val (.int p3), .val (.int p4), .val (.int p5), .val (.int (2 : Int32)), .val (.int ff), .val (.ref a51), .unset, .unset] []))
    refine own_Goes.st ?_ (fun _ k => XS.aload X55.here hx rfl (hb hby at_29) rfl rfl k)
    show own_Goes p.tables e below P (T55.setTop (mkF m 31 #[.val (.int p0), .val (.int p1), .val (.int p2), .val (.int p3), .val (.int p4), .val (.int p5), .val (.int (2 : Int32)), .val (.int ff), .val (.ref a51), .unset, .unset] [(.ref a51)]))
    refine own_Goes.st ?_ (fun _ k => XS.iloadN X55.here hx rfl (hb hby at_31) rfl k)
    show own_Goes p.tables e below P (T55.setTop (mkF m 32 #[.val (.int p0), .val (.int p1), .val (.int p2), .val (.int p3), .val (.int p4), .val (.int p5), .val (.int (2 : Int32)), .val (.int ff), .val (.ref a51), .unset, .unset] [(.int p1), (.ref a51)]))
    obtain ⟨cq64, kq64, q64a, q64b, q64c⟩ := isOf hZ rfl f56
    obtain ⟨_, _, ⟨T64, L64, k64, n64⟩, -, X64, ⟨Lc64, hQ64, l64, y64, z64⟩, st64⟩ := X55.virtualBack hx (y := (⟨"com/example/usnea/usnea/datalog/IntList", "add", "(I)V"⟩ : MethodName)) (z := (⟨"com/example/usnea/usnea/datalog/IntList", "add", "(I)V"⟩ : MethodName)) hown (mvT hZ (hw _ (List.mem_of_getElem? (i := 38) rfl))) (mvT hZ (hw _ (List.mem_of_getElem? (i := 39) rfl))) (notFace_of_selects (args := #[]) (mvT hZ (hw _ (List.mem_of_getElem? (i := 41) rfl)))) (mvT hZ (hw _ (List.mem_of_getElem? (i := 41) rfl))) (mvT hZ (hw _ (List.mem_of_getElem? (i := 40) rfl))) (by decide) (backOf (W := 0) (rm_add_0 l Z a0 hw [] a51 p1 b55 k55 T55.heap n0 Z63 f56 f57 f58 f60 f61 ge_a51 ge_b55 ne62) hZ (hw _ (List.mem_of_getElem? (i := 42) rfl)) (hw _ (List.mem_of_getElem? (i := 4) rfl)) (by decide) (by decide)) q64a q64c (g := (mkF m 32 #[.val (.int p0), .val (.int p1), .val (.int p2), .val (.int p3), .val (.int p4), .val (.int p5), .val (.int (2 : Int32)), .val (.int ff), .val (.ref a51), .unset, .unset] [(.int p1), (.ref a51)])) rfl (by rw [hml]; rfl) (Steps.refl _) (argsL := [(.int p1)]) (rest := []) (lenOf own_pd__28_I_29_V rfl) rfl (by show 2 * 0 + _ ≤ _; exact Nat.le_of_eq rfl) (hb hby at_32) (fun _ _ => ⟨rfl, rfl, (by decide : 2 + 0 ≤ _), (by decide : 6 + 0 ≤ _)⟩)
    dsimp only [Pt.U, Pt.locs, Pt.cells, Pt.slots] at X64 l64 y64 z64 st64 hQ64
    rw [l64, y64, z64] at X64
    obtain ⟨rfl, Nq64, K64, f65, f66, f67, f68, f69⟩ := hQ64
    have N64 := Fr.app N55 Nq64
    refine own_Goes.tr st64 ?_
    have Z70 : n0 ≤ T64.heap.size := Nat.le_trans Z63 K64.1
    show own_Goes p.tables e below P (T64.setTop (mkF m 35 #[.val (.int p0), .val (.int p1), .val (.int p2), .val (.int p3), .val (.int p4), .val (.int p5), .val (.int (2 : Int32)), .val (.int ff), .val (.ref a51), .unset, .unset] []))
    refine own_Goes.st ?_ (fun _ k => XS.iload X64.here hx rfl (hb hby at_35) rfl k)
    show own_Goes p.tables e below P (T64.setTop (mkF m 37 #[.val (.int p0), .val (.int p1), .val (.int p2), .val (.int p3), .val (.int p4), .val (.int p5), .val (.int (2 : Int32)), .val (.int ff), .val (.ref a51), .unset, .unset] [(.int (2 : Int32))]))
    refine own_Goes.st ?_ (fun _ k => XS.iconst X64.here hx rfl (hb hby at_37) k)
    show own_Goes p.tables e below P (T64.setTop (mkF m 38 #[.val (.int p0), .val (.int p1), .val (.int p2), .val (.int p3), .val (.int p4), .val (.int p5), .val (.int (2 : Int32)), .val (.int ff), .val (.ref a51), .unset, .unset] [(.int (1 : Int32)), (.int (2 : Int32))]))
    refine own_Goes.st ?_ (fun _ k => XS.icmpNo X64.here hx rfl (hb hby at_38) rfl (tlt (by decide : (1 : Int32) < (2 : Int32))).2.2.2 k)
    show own_Goes p.tables e below P (T64.setTop (mkF m 41 #[.val (.int p0), .val (.int p1), .val (.int p2), .val (.int p3), .val (.int p4), .val (.int p5), .val (.int (2 : Int32)), .val (.int ff), .val (.ref a51), .unset, .unset] []))
    refine own_Goes.st ?_ (fun _ k => XS.aload X64.here hx rfl (hb hby at_41) rfl rfl k)
    show own_Goes p.tables e below P (T64.setTop (mkF m 43 #[.val (.int p0), .val (.int p1), .val (.int p2), .val (.int p3), .val (.int p4), .val (.int p5), .val (.int (2 : Int32)), .val (.int ff), .val (.ref a51), .unset, .unset] [(.ref a51)]))
    refine own_Goes.st ?_ (fun _ k => XS.iloadN X64.here hx rfl (hb hby at_43) rfl k)
    show own_Goes p.tables e below P (T64.setTop (mkF m 44 #[.val (.int p0), .val (.int p1), .val (.int p2), .val (.int p3), .val (.int p4), .val (.int p5), .val (.int (2 : Int32)), .val (.int ff), .val (.ref a51), .unset, .unset] [(.int p2), (.ref a51)]))
    obtain ⟨cq71, kq71, q71a, q71b, q71c⟩ := isOf hZ rfl f65
    obtain ⟨_, _, ⟨T71, L71, k71, n71⟩, -, X71, ⟨Lc71, hQ71, l71, y71, z71⟩, st71⟩ := X64.virtualBack hx (y := (⟨"com/example/usnea/usnea/datalog/IntList", "add", "(I)V"⟩ : MethodName)) (z := (⟨"com/example/usnea/usnea/datalog/IntList", "add", "(I)V"⟩ : MethodName)) hown (mvT hZ (hw _ (List.mem_of_getElem? (i := 38) rfl))) (mvT hZ (hw _ (List.mem_of_getElem? (i := 39) rfl))) (notFace_of_selects (args := #[]) (mvT hZ (hw _ (List.mem_of_getElem? (i := 41) rfl)))) (mvT hZ (hw _ (List.mem_of_getElem? (i := 41) rfl))) (mvT hZ (hw _ (List.mem_of_getElem? (i := 40) rfl))) (by decide) (backOf (W := 0) (rm_add_1 l Z a0 hw [] a51 p2 b55 k55 p1 T64.heap n0 Z70 f65 f66 f67 f68 f69 ge_a51 ge_b55 ne62) hZ (hw _ (List.mem_of_getElem? (i := 42) rfl)) (hw _ (List.mem_of_getElem? (i := 4) rfl)) (by decide) (by decide)) q71a q71c (g := (mkF m 44 #[.val (.int p0), .val (.int p1), .val (.int p2), .val (.int p3), .val (.int p4), .val (.int p5), .val (.int (2 : Int32)), .val (.int ff), .val (.ref a51), .unset, .unset] [(.int p2), (.ref a51)])) rfl (by rw [hml]; rfl) (Steps.refl _) (argsL := [(.int p2)]) (rest := []) (lenOf own_pd__28_I_29_V rfl) rfl (by show 2 * 0 + _ ≤ _; exact Nat.le_of_eq rfl) (hb hby at_44) (fun _ _ => ⟨rfl, rfl, (by decide : 2 + 0 ≤ _), (by decide : 6 + 0 ≤ _)⟩)
    dsimp only [Pt.U, Pt.locs, Pt.cells, Pt.slots] at X71 l71 y71 z71 st71 hQ71
    rw [l71, y71, z71] at X71
    obtain ⟨rfl, Nq71, K71, f72, f73, f74, f75, f76⟩ := hQ71
    have N71 := Fr.app N64 Nq71
    refine own_Goes.tr st71 ?_
    have Z77 : n0 ≤ T71.heap.size := Nat.le_trans Z70 K71.1
    show own_Goes p.tables e below P (T71.setTop (mkF m 47 #[.val (.int p0), .val (.int p1), .val (.int p2), .val (.int p3), .val (.int p4), .val (.int p5), .val (.int (2 : Int32)), .val (.int ff), .val (.ref a51), .unset, .unset] []))
    refine own_Goes.st ?_ (fun _ k => XS.iload X71.here hx rfl (hb hby at_47) rfl k)
    show own_Goes p.tables e below P (T71.setTop (mkF m 49 #[.val (.int p0), .val (.int p1), .val (.int p2), .val (.int p3), .val (.int p4), .val (.int p5), .val (.int (2 : Int32)), .val (.int ff), .val (.ref a51), .unset, .unset] [(.int (2 : Int32))]))
    refine own_Goes.st ?_ (fun _ k => XS.iconst X71.here hx rfl (hb hby at_49) k)
    show own_Goes p.tables e below P (T71.setTop (mkF m 50 #[.val (.int p0), .val (.int p1), .val (.int p2), .val (.int p3), .val (.int p4), .val (.int p5), .val (.int (2 : Int32)), .val (.int ff), .val (.ref a51), .unset, .unset] [(.int (2 : Int32)), (.int (2 : Int32))]))
    refine own_Goes.st ?_ (fun _ k => XS.icmpYes X71.here hx rfl (pc0 := 50) (pc' := 59) rfl (hb hby at_50) rfl (flt (by decide : ¬ ((2 : Int32) < (2 : Int32)))).2.2.2 (by decide) (by decide) k)
    show own_Goes p.tables e below P (T71.setTop (mkF m 59 #[.val (.int p0), .val (.int p1), .val (.int p2), .val (.int p3), .val (.int p4), .val (.int p5), .val (.int (2 : Int32)), .val (.int ff), .val (.ref a51), .unset, .unset] []))
    refine own_Goes.st ?_ (fun _ k => XS.iload X71.here hx rfl (hb hby at_59) rfl k)
    show own_Goes p.tables e below P (T71.setTop (mkF m 61 #[.val (.int p0), .val (.int p1), .val (.int p2), .val (.int p3), .val (.int p4), .val (.int p5), .val (.int (2 : Int32)), .val (.int ff), .val (.ref a51), .unset, .unset] [(.int (2 : Int32))]))
    refine own_Goes.st ?_ (fun _ k => XS.iconst X71.here hx rfl (hb hby at_61) k)
    show own_Goes p.tables e below P (T71.setTop (mkF m 62 #[.val (.int p0), .val (.int p1), .val (.int p2), .val (.int p3), .val (.int p4), .val (.int p5), .val (.int (2 : Int32)), .val (.int ff), .val (.ref a51), .unset, .unset] [(.int (3 : Int32)), (.int (2 : Int32))]))
    refine own_Goes.st ?_ (fun _ k => XS.icmpYes X71.here hx rfl (pc0 := 62) (pc' := 72) rfl (hb hby at_62) rfl (flt (by decide : ¬ ((3 : Int32) < (2 : Int32)))).2.2.2 (by decide) (by decide) k)
    show own_Goes p.tables e below P (T71.setTop (mkF m 72 #[.val (.int p0), .val (.int p1), .val (.int p2), .val (.int p3), .val (.int p4), .val (.int p5), .val (.int (2 : Int32)), .val (.int ff), .val (.ref a51), .unset, .unset] []))
    refine own_Goes.st ?_ (fun _ k => XS.iload X71.here hx rfl (hb hby at_72) rfl k)
    show own_Goes p.tables e below P (T71.setTop (mkF m 74 #[.val (.int p0), .val (.int p1), .val (.int p2), .val (.int p3), .val (.int p4), .val (.int p5), .val (.int (2 : Int32)), .val (.int ff), .val (.ref a51), .unset, .unset] [(.int (2 : Int32))]))
    refine own_Goes.st ?_ (fun _ k => XS.iconst X71.here hx rfl (hb hby at_74) k)
    show own_Goes p.tables e below P (T71.setTop (mkF m 75 #[.val (.int p0), .val (.int p1), .val (.int p2), .val (.int p3), .val (.int p4), .val (.int p5), .val (.int (2 : Int32)), .val (.int ff), .val (.ref a51), .unset, .unset] [(.int (4 : Int32)), (.int (2 : Int32))]))
    refine own_Goes.st ?_ (fun _ k => XS.icmpYes X71.here hx rfl (pc0 := 75) (pc' := 85) rfl (hb hby at_75) rfl (flt (by decide : ¬ ((4 : Int32) < (2 : Int32)))).2.2.2 (by decide) (by decide) k)
    show own_Goes p.tables e below P (T71.setTop (mkF m 85 #[.val (.int p0), .val (.int p1), .val (.int p2), .val (.int p3), .val (.int p4), .val (.int p5), .val (.int (2 : Int32)), .val (.int ff), .val (.ref a51), .unset, .unset] []))
    refine own_Goes.st ?_ (fun _ k => XS.iload X71.here hx rfl (hb hby at_85) rfl k)
    show own_Goes p.tables e below P (T71.setTop (mkF m 87 #[.val (.int p0), .val (.int p1), .val (.int p2), .val (.int p3), .val (.int p4), .val (.int p5), .val (.int (2 : Int32)), .val (.int ff), .val (.ref a51), .unset, .unset] [(.int (2 : Int32))]))
    refine own_Goes.st ?_ (fun _ k => XS.iconst X71.here hx rfl (hb hby at_87) k)
    show own_Goes p.tables e below P (T71.setTop (mkF m 88 #[.val (.int p0), .val (.int p1), .val (.int p2), .val (.int p3), .val (.int p4), .val (.int p5), .val (.int (2 : Int32)), .val (.int ff), .val (.ref a51), .unset, .unset] [(.int (5 : Int32)), (.int (2 : Int32))]))
    refine own_Goes.st ?_ (fun _ k => XS.icmpYes X71.here hx rfl (pc0 := 88) (pc' := 98) rfl (hb hby at_88) rfl (flt (by decide : ¬ ((5 : Int32) < (2 : Int32)))).2.2.2 (by decide) (by decide) k)
    show own_Goes p.tables e below P (T71.setTop (mkF m 98 #[.val (.int p0), .val (.int p1), .val (.int p2), .val (.int p3), .val (.int p4), .val (.int p5), .val (.int (2 : Int32)), .val (.int ff), .val (.ref a51), .unset, .unset] []))
    refine own_Goes.st ?_ (fun _ k => XS.aload X71.here hx rfl (hb hby at_98) rfl rfl k)
    show own_Goes p.tables e below P (T71.setTop (mkF m 100 #[.val (.int p0), .val (.int p1), .val (.int p2), .val (.int p3), .val (.int p4), .val (.int p5), .val (.int (2 : Int32)), .val (.int ff), .val (.ref a51), .unset, .unset] [(.ref a51)]))
    obtain ⟨cq78, kq78, q78a, q78b, q78c⟩ := isOf hZ rfl f72
    obtain ⟨_, _, ⟨T78, L78, k78, n78⟩, -, X78, ⟨Lc78, hQ78, l78, y78, z78⟩, st78⟩ := X71.virtualBack hx (y := (⟨"com/example/usnea/usnea/datalog/IntList", "size", "()I"⟩ : MethodName)) (z := (⟨"com/example/usnea/usnea/datalog/IntList", "size", "()I"⟩ : MethodName)) hown (mvT hZ (hw _ (List.mem_of_getElem? (i := 14) rfl))) (mvT hZ (hw _ (List.mem_of_getElem? (i := 15) rfl))) (notFace_of_selects (args := #[]) (mvT hZ (hw _ (List.mem_of_getElem? (i := 17) rfl)))) (mvT hZ (hw _ (List.mem_of_getElem? (i := 17) rfl))) (mvT hZ (hw _ (List.mem_of_getElem? (i := 16) rfl))) (by decide) (backOf (W := 0) (rm_size l Z a0 hw [] a51 (2 : Int32) T71.heap n0 Z77 f74) hZ (hw _ (List.mem_of_getElem? (i := 18) rfl)) (hw _ (List.mem_of_getElem? (i := 4) rfl)) (by decide) (by decide)) q78a q78c (g := (mkF m 100 #[.val (.int p0), .val (.int p1), .val (.int p2), .val (.int p3), .val (.int p4), .val (.int p5), .val (.int (2 : Int32)), .val (.int ff), .val (.ref a51), .unset, .unset] [(.ref a51)])) rfl (by rw [hml]; rfl) (Steps.refl _) (argsL := []) (rest := []) (lenOf own_pd__28__29_I rfl) rfl (by show 2 * 0 + _ ≤ _; exact Nat.le_of_eq rfl) (hb hby at_100) (fun _ _ => ⟨rfl, rfl, (by decide : 2 + 0 ≤ _), (by decide : 6 + 0 ≤ _)⟩)
    dsimp only [Pt.U, Pt.locs, Pt.cells, Pt.slots] at X78 l78 y78 z78 st78 hQ78
    rw [l78, y78, z78] at X78
    obtain ⟨rfl, Nq78, e78⟩ := hQ78
    have N78 := Fr.app N71 Nq78
    refine own_Goes.tr st78 ?_
    show own_Goes p.tables e below P (T78.setTop (mkF m 103 #[.val (.int p0), .val (.int p1), .val (.int p2), .val (.int p3), .val (.int p4), .val (.int p5), .val (.int (2 : Int32)), .val (.int ff), .val (.ref a51), .unset, .unset] [(.int (2 : Int32))]))
    refine own_Goes.st ?_ (fun _ k => XS.iload X78.here hx rfl (hb hby at_103) rfl k)
    show own_Goes p.tables e below P (T78.setTop (mkF m 105 #[.val (.int p0), .val (.int p1), .val (.int p2), .val (.int p3), .val (.int p4), .val (.int p5), .val (.int (2 : Int32)), .val (.int ff), .val (.ref a51), .unset, .unset] [(.int (2 : Int32)), (.int (2 : Int32))]))
    refine own_Goes.st ?_ (fun _ k => XS.icmpYes X78.here hx rfl (pc0 := 105) (pc' := 110) rfl (hb hby at_105) rfl (teq (by decide : (2 : Int32) = (2 : Int32))).1 (by decide) (by decide) k)
    show own_Goes p.tables e below P (T78.setTop (mkF m 110 #[.val (.int p0), .val (.int p1), .val (.int p2), .val (.int p3), .val (.int p4), .val (.int p5), .val (.int (2 : Int32)), .val (.int ff), .val (.ref a51), .unset, .unset] []))
    refine own_Goes.st ?_ (fun _ k => XS.aload X78.here hx rfl (hb hby at_110) rfl rfl k)
    show own_Goes p.tables e below P (T78.setTop (mkF m 112 #[.val (.int p0), .val (.int p1), .val (.int p2), .val (.int p3), .val (.int p4), .val (.int p5), .val (.int (2 : Int32)), .val (.int ff), .val (.ref a51), .unset, .unset] [(.ref a51)]))
    obtain ⟨cq79, kq79, q79a, q79b, q79c⟩ := isOf hZ e78 f72
    obtain ⟨_, _, ⟨T79, L79, k79, n79⟩, -, X79, ⟨Lc79, hQ79, l79, y79, z79⟩, st79⟩ := X78.virtualBack hx (y := (⟨"com/example/usnea/usnea/datalog/IntList", "toArray", "()[I"⟩ : MethodName)) (z := (⟨"com/example/usnea/usnea/datalog/IntList", "toArray", "()[I"⟩ : MethodName)) hown (mvT hZ (hw _ (List.mem_of_getElem? (i := 21) rfl))) (mvT hZ (hw _ (List.mem_of_getElem? (i := 22) rfl))) (notFace_of_selects (args := #[]) (mvT hZ (hw _ (List.mem_of_getElem? (i := 24) rfl)))) (mvT hZ (hw _ (List.mem_of_getElem? (i := 24) rfl))) (mvT hZ (hw _ (List.mem_of_getElem? (i := 23) rfl))) (by decide) (backOf (W := 0) (rm_toarr_2 l Z a0 hw [] a51 b55 k55 p1 p2 T71.heap n0 Z77 f73 f74 f75 f76) hZ (hw _ (List.mem_of_getElem? (i := 25) rfl)) (hw _ (List.mem_of_getElem? (i := 4) rfl)) (by decide) (by decide)) q79a q79c (g := (mkF m 112 #[.val (.int p0), .val (.int p1), .val (.int p2), .val (.int p3), .val (.int p4), .val (.int p5), .val (.int (2 : Int32)), .val (.int ff), .val (.ref a51), .unset, .unset] [(.ref a51)])) rfl (by rw [hml]; rfl) (Steps.refl _) (argsL := []) (rest := []) (lenOf own_pd__28__29__5b_I rfl) rfl (by show 2 * 0 + _ ≤ _; exact Nat.le_of_eq rfl) (hb hby at_112) (fun _ _ => ⟨rfl, e78, (by decide : 2 + 1 ≤ _), (by decide : 6 + 2 ≤ _)⟩)
    dsimp only [Pt.U, Pt.locs, Pt.cells, Pt.slots] at X79 l79 y79 z79 st79 hQ79
    rw [l79, y79, z79] at X79
    obtain ⟨r79, q79, rfl, Nq79, K79, f80, f81⟩ := hQ79
    have N79 := Fr.app N78 Nq79
    refine own_Goes.tr st79 ?_
    have ne82 : a51 ≠ r79 := Nat.ne_of_lt (Nat.lt_of_lt_of_le f72.lt f80)
    have ne83 : b55 ≠ r79 := Nat.ne_of_lt (Nat.lt_of_lt_of_le f76.lt f80)
    have ge_r79 : n0 ≤ r79 := Nat.le_trans Z77 f80
    have Z84 : n0 ≤ T79.heap.size := Nat.le_trans Z77 K79.1
    show own_Goes p.tables e below P (T79.setTop (mkF m 115 #[.val (.int p0), .val (.int p1), .val (.int p2), .val (.int p3), .val (.int p4), .val (.int p5), .val (.int (2 : Int32)), .val (.int ff), .val (.ref a51), .unset, .unset] [(.ref r79)]))
    refine own_Goes.st ?_ (fun _ k => XS.astore X79.here hx rfl (hb hby at_115) rfl rfl (l' := #[.val (.int p0), .val (.int p1), .val (.int p2), .val (.int p3), .val (.int p4), .val (.int p5), .val (.int (2 : Int32)), .val (.int ff), .val (.ref a51), .val (.ref r79), .unset]) rfl k)
    show own_Goes p.tables e below P (T79.setTop (mkF m 117 #[.val (.int p0), .val (.int p1), .val (.int p2), .val (.int p3), .val (.int p4), .val (.int p5), .val (.int (2 : Int32)), .val (.int ff), .val (.ref a51), .val (.ref r79), .unset] []))
    refine own_Goes.st ?_ (fun _ k => XS.aload X79.here hx rfl (hb hby at_117) rfl rfl k)
    show own_Goes p.tables e below P (T79.setTop (mkF m 119 #[.val (.int p0), .val (.int p1), .val (.int p2), .val (.int p3), .val (.int p4), .val (.int p5), .val (.int (2 : Int32)), .val (.int ff), .val (.ref a51), .val (.ref r79), .unset] [(.ref r79)]))
    have Vc85 := f81
    obtain ⟨cl85, Ar85, qc85, S85, Nn85, Hs85, Gs85⟩ := Vc85
    refine own_Goes.st ?_ (X79.arraylength hx Ar85.1 (State.isArrayOf_alike hZ.alike Ar85.2.1) (g := (mkF m 119 #[.val (.int p0), .val (.int p1), .val (.int p2), .val (.int p3), .val (.int p4), .val (.int p5), .val (.int (2 : Int32)), .val (.int ff), .val (.ref a51), .val (.ref r79), .unset] [(.ref r79)])) rfl rfl (hb hby at_119))
    rw [len_of S85 Nn85]
    show own_Goes p.tables e below P (T79.setTop (mkF m 120 #[.val (.int p0), .val (.int p1), .val (.int p2), .val (.int p3), .val (.int p4), .val (.int p5), .val (.int (2 : Int32)), .val (.int ff), .val (.ref a51), .val (.ref r79), .unset] [(.int (2 : Int32))]))
    refine own_Goes.st ?_ (fun _ k => XS.iload X79.here hx rfl (hb hby at_120) rfl k)
    show own_Goes p.tables e below P (T79.setTop (mkF m 122 #[.val (.int p0), .val (.int p1), .val (.int p2), .val (.int p3), .val (.int p4), .val (.int p5), .val (.int (2 : Int32)), .val (.int ff), .val (.ref a51), .val (.ref r79), .unset] [(.int (2 : Int32)), (.int (2 : Int32))]))
    refine own_Goes.st ?_ (fun _ k => XS.icmpYes X79.here hx rfl (pc0 := 122) (pc' := 127) rfl (hb hby at_122) rfl (teq (by decide : (2 : Int32) = (2 : Int32))).1 (by decide) (by decide) k)
    show own_Goes p.tables e below P (T79.setTop (mkF m 127 #[.val (.int p0), .val (.int p1), .val (.int p2), .val (.int p3), .val (.int p4), .val (.int p5), .val (.int (2 : Int32)), .val (.int ff), .val (.ref a51), .val (.ref r79), .unset] []))
    refine own_Goes.st ?_ (fun _ k => XS.iconst X79.here hx rfl (hb hby at_127) k)
    show own_Goes p.tables e below P (T79.setTop (mkF m 128 #[.val (.int p0), .val (.int p1), .val (.int p2), .val (.int p3), .val (.int p4), .val (.int p5), .val (.int (2 : Int32)), .val (.int ff), .val (.ref a51), .val (.ref r79), .unset] [(.int (1 : Int32))]))
    refine own_Goes.st ?_ (fun _ k => XS.istore X79.here hx rfl (hb hby at_128) rfl (l' := #[.val (.int p0), .val (.int p1), .val (.int p2), .val (.int p3), .val (.int p4), .val (.int p5), .val (.int (2 : Int32)), .val (.int ff), .val (.ref a51), .val (.ref r79), .val (.int (1 : Int32))]) rfl k)
    show own_Goes p.tables e below P (T79.setTop (mkF m 130 #[.val (.int p0), .val (.int p1), .val (.int p2), .val (.int p3), .val (.int p4), .val (.int p5), .val (.int (2 : Int32)), .val (.int ff), .val (.ref a51), .val (.ref r79), .val (.int (1 : Int32))] []))
    refine own_Goes.st ?_ (fun _ k => XS.iload X79.here hx rfl (hb hby at_130) rfl k)
    show own_Goes p.tables e below P (T79.setTop (mkF m 132 #[.val (.int p0), .val (.int p1), .val (.int p2), .val (.int p3), .val (.int p4), .val (.int p5), .val (.int (2 : Int32)), .val (.int ff), .val (.ref a51), .val (.ref r79), .val (.int (1 : Int32))] [(.int (2 : Int32))]))
    refine own_Goes.st ?_ (fun _ k => XS.ifNo X79.here hx rfl (hb hby at_132) rfl ((if0 _ _).trans (tlt (by decide : (0 : Int32) < (2 : Int32))).2.2.2) k)
    show own_Goes p.tables e below P (T79.setTop (mkF m 135 #[.val (.int p0), .val (.int p1), .val (.int p2), .val (.int p3), .val (.int p4), .val (.int p5), .val (.int (2 : Int32)), .val (.int ff), .val (.ref a51), .val (.ref r79), .val (.int (1 : Int32))] []))
    refine own_Goes.st ?_ (fun _ k => XS.iload X79.here hx rfl (hb hby at_135) rfl k)
    show own_Goes p.tables e below P (T79.setTop (mkF m 137 #[.val (.int p0), .val (.int p1), .val (.int p2), .val (.int p3), .val (.int p4), .val (.int p5), .val (.int (2 : Int32)), .val (.int ff), .val (.ref a51), .val (.ref r79), .val (.int (1 : Int32))] [(.int (1 : Int32))]))
    refine own_Goes.st ?_ (fun _ k => XS.ifNo X79.here hx rfl (hb hby at_137) rfl ((if0 _ _).trans (feq (by decide : ¬ ((1 : Int32) = (0 : Int32)))).1) k)
    show own_Goes p.tables e below P (T79.setTop (mkF m 140 #[.val (.int p0), .val (.int p1), .val (.int p2), .val (.int p3), .val (.int p4), .val (.int p5), .val (.int (2 : Int32)), .val (.int ff), .val (.ref a51), .val (.ref r79), .val (.int (1 : Int32))] []))
    refine own_Goes.st ?_ (fun _ k => XS.aload X79.here hx rfl (hb hby at_140) rfl rfl k)
    show own_Goes p.tables e below P (T79.setTop (mkF m 142 #[.val (.int p0), .val (.int p1), .val (.int p2), .val (.int p3), .val (.int p4), .val (.int p5), .val (.int (2 : Int32)), .val (.int ff), .val (.ref a51), .val (.ref r79), .val (.int (1 : Int32))] [(.ref r79)]))
    refine own_Goes.st ?_ (fun _ k => XS.iconst X79.here hx rfl (hb hby at_142) k)
    show own_Goes p.tables e below P (T79.setTop (mkF m 143 #[.val (.int p0), .val (.int p1), .val (.int p2), .val (.int p3), .val (.int p4), .val (.int p5), .val (.int (2 : Int32)), .val (.int ff), .val (.ref a51), .val (.ref r79), .val (.int (1 : Int32))] [(.int (0 : Int32)), (.ref r79)]))
    have hin86 : ¬ ((0 : Int32) < 0 ∨ cl85.slots.size ≤ ((0 : Int32)).toNatClampNeg) := inb_of S85 ⟨by decide, by decide⟩
    refine own_Goes.st ?_ (X79.iaload hx (j := (0 : Int32)) (v := (.int p1)) Ar85.1 (State.isArrayOf_alike hZ.alike Ar85.2.1) Ar85.2.2 hin86 (Has.at Hs85 hin86 rfl) (g := (mkF m 143 #[.val (.int p0), .val (.int p1), .val (.int p2), .val (.int p3), .val (.int p4), .val (.int p5), .val (.int (2 : Int32)), .val (.int ff), .val (.ref a51), .val (.ref r79), .val (.int (1 : Int32))] [(.int (0 : Int32)), (.ref r79)])) rfl rfl (hb hby at_143))
    show own_Goes p.tables e below P (T79.setTop (mkF m 144 #[.val (.int p0), .val (.int p1), .val (.int p2), .val (.int p3), .val (.int p4), .val (.int p5), .val (.int (2 : Int32)), .val (.int ff), .val (.ref a51), .val (.ref r79), .val (.int (1 : Int32))] [(.int p1)]))
    refine own_Goes.st ?_ (fun _ k => XS.iloadN X79.here hx rfl (hb hby at_144) rfl k)
    show own_Goes p.tables e below P (T79.setTop (mkF m 145 #[.val (.int p0), .val (.int p1), .val (.int p2), .val (.int p3), .val (.int p4), .val (.int p5), .val (.int (2 : Int32)), .val (.int ff), .val (.ref a51), .val (.ref r79), .val (.int (1 : Int32))] [(.int p1), (.int p1)]))
    refine own_Goes.st ?_ (fun _ k => XS.icmpNo X79.here hx rfl (hb hby at_145) rfl (teq (rfl : p1 = p1)).2 k)
    show own_Goes p.tables e below P (T79.setTop (mkF m 148 #[.val (.int p0), .val (.int p1), .val (.int p2), .val (.int p3), .val (.int p4), .val (.int p5), .val (.int (2 : Int32)), .val (.int ff), .val (.ref a51), .val (.ref r79), .val (.int (1 : Int32))] []))
    refine own_Goes.st ?_ (fun _ k => XS.iconst X79.here hx rfl (hb hby at_148) k)
    show own_Goes p.tables e below P (T79.setTop (mkF m 149 #[.val (.int p0), .val (.int p1), .val (.int p2), .val (.int p3), .val (.int p4), .val (.int p5), .val (.int (2 : Int32)), .val (.int ff), .val (.ref a51), .val (.ref r79), .val (.int (1 : Int32))] [(.int (1 : Int32))]))
    refine own_Goes.st ?_ (fun _ k => XS.goto X79.here hx rfl (pc0 := 149) (pc' := 153) rfl (hb hby at_149) (by decide) (by decide) k)
    show own_Goes p.tables e below P (T79.setTop (mkF m 153 #[.val (.int p0), .val (.int p1), .val (.int p2), .val (.int p3), .val (.int p4), .val (.int p5), .val (.int (2 : Int32)), .val (.int ff), .val (.ref a51), .val (.ref r79), .val (.int (1 : Int32))] [(.int (1 : Int32))]))
    refine own_Goes.st ?_ (fun _ k => XS.istore X79.here hx rfl (hb hby at_153) rfl (l' := #[.val (.int p0), .val (.int p1), .val (.int p2), .val (.int p3), .val (.int p4), .val (.int p5), .val (.int (2 : Int32)), .val (.int ff), .val (.ref a51), .val (.ref r79), .val (.int (1 : Int32))]) rfl k)
    show own_Goes p.tables e below P (T79.setTop (mkF m 155 #[.val (.int p0), .val (.int p1), .val (.int p2), .val (.int p3), .val (.int p4), .val (.int p5), .val (.int (2 : Int32)), .val (.int ff), .val (.ref a51), .val (.ref r79), .val (.int (1 : Int32))] []))
    refine own_Goes.st ?_ (fun _ k => XS.iload X79.here hx rfl (hb hby at_155) rfl k)
    show own_Goes p.tables e below P (T79.setTop (mkF m 157 #[.val (.int p0), .val (.int p1), .val (.int p2), .val (.int p3), .val (.int p4), .val (.int p5), .val (.int (2 : Int32)), .val (.int ff), .val (.ref a51), .val (.ref r79), .val (.int (1 : Int32))] [(.int (2 : Int32))]))
    refine own_Goes.st ?_ (fun _ k => XS.iconst X79.here hx rfl (hb hby at_157) k)
    show own_Goes p.tables e below P (T79.setTop (mkF m 158 #[.val (.int p0), .val (.int p1), .val (.int p2), .val (.int p3), .val (.int p4), .val (.int p5), .val (.int (2 : Int32)), .val (.int ff), .val (.ref a51), .val (.ref r79), .val (.int (1 : Int32))] [(.int (1 : Int32)), (.int (2 : Int32))]))
    refine own_Goes.st ?_ (fun _ k => XS.icmpNo X79.here hx rfl (hb hby at_158) rfl (tlt (by decide : (1 : Int32) < (2 : Int32))).2.2.2 k)
    show own_Goes p.tables e below P (T79.setTop (mkF m 161 #[.val (.int p0), .val (.int p1), .val (.int p2), .val (.int p3), .val (.int p4), .val (.int p5), .val (.int (2 : Int32)), .val (.int ff), .val (.ref a51), .val (.ref r79), .val (.int (1 : Int32))] []))
    refine own_Goes.st ?_ (fun _ k => XS.iload X79.here hx rfl (hb hby at_161) rfl k)
    show own_Goes p.tables e below P (T79.setTop (mkF m 163 #[.val (.int p0), .val (.int p1), .val (.int p2), .val (.int p3), .val (.int p4), .val (.int p5), .val (.int (2 : Int32)), .val (.int ff), .val (.ref a51), .val (.ref r79), .val (.int (1 : Int32))] [(.int (1 : Int32))]))
    refine own_Goes.st ?_ (fun _ k => XS.ifNo X79.here hx rfl (hb hby at_163) rfl ((if0 _ _).trans (feq (by decide : ¬ ((1 : Int32) = (0 : Int32)))).1) k)
    show own_Goes p.tables e below P (T79.setTop (mkF m 166 #[.val (.int p0), .val (.int p1), .val (.int p2), .val (.int p3), .val (.int p4), .val (.int p5), .val (.int (2 : Int32)), .val (.int ff), .val (.ref a51), .val (.ref r79), .val (.int (1 : Int32))] []))
    refine own_Goes.st ?_ (fun _ k => XS.aload X79.here hx rfl (hb hby at_166) rfl rfl k)
    show own_Goes p.tables e below P (T79.setTop (mkF m 168 #[.val (.int p0), .val (.int p1), .val (.int p2), .val (.int p3), .val (.int p4), .val (.int p5), .val (.int (2 : Int32)), .val (.int ff), .val (.ref a51), .val (.ref r79), .val (.int (1 : Int32))] [(.ref r79)]))
    refine own_Goes.st ?_ (fun _ k => XS.iconst X79.here hx rfl (hb hby at_168) k)
    show own_Goes p.tables e below P (T79.setTop (mkF m 169 #[.val (.int p0), .val (.int p1), .val (.int p2), .val (.int p3), .val (.int p4), .val (.int p5), .val (.int (2 : Int32)), .val (.int ff), .val (.ref a51), .val (.ref r79), .val (.int (1 : Int32))] [(.int (1 : Int32)), (.ref r79)]))
    have hin87 : ¬ ((1 : Int32) < 0 ∨ cl85.slots.size ≤ ((1 : Int32)).toNatClampNeg) := inb_of S85 ⟨by decide, by decide⟩
    refine own_Goes.st ?_ (X79.iaload hx (j := (1 : Int32)) (v := (.int p2)) Ar85.1 (State.isArrayOf_alike hZ.alike Ar85.2.1) Ar85.2.2 hin87 (Has.at Hs85 hin87 rfl) (g := (mkF m 169 #[.val (.int p0), .val (.int p1), .val (.int p2), .val (.int p3), .val (.int p4), .val (.int p5), .val (.int (2 : Int32)), .val (.int ff), .val (.ref a51), .val (.ref r79), .val (.int (1 : Int32))] [(.int (1 : Int32)), (.ref r79)])) rfl rfl (hb hby at_169))
    show own_Goes p.tables e below P (T79.setTop (mkF m 170 #[.val (.int p0), .val (.int p1), .val (.int p2), .val (.int p3), .val (.int p4), .val (.int p5), .val (.int (2 : Int32)), .val (.int ff), .val (.ref a51), .val (.ref r79), .val (.int (1 : Int32))] [(.int p2)]))
    refine own_Goes.st ?_ (fun _ k => XS.iloadN X79.here hx rfl (hb hby at_170) rfl k)
    show own_Goes p.tables e below P (T79.setTop (mkF m 171 #[.val (.int p0), .val (.int p1), .val (.int p2), .val (.int p3), .val (.int p4), .val (.int p5), .val (.int (2 : Int32)), .val (.int ff), .val (.ref a51), .val (.ref r79), .val (.int (1 : Int32))] [(.int p2), (.int p2)]))
    refine own_Goes.st ?_ (fun _ k => XS.icmpNo X79.here hx rfl (hb hby at_171) rfl (teq (rfl : p2 = p2)).2 k)
    show own_Goes p.tables e below P (T79.setTop (mkF m 174 #[.val (.int p0), .val (.int p1), .val (.int p2), .val (.int p3), .val (.int p4), .val (.int p5), .val (.int (2 : Int32)), .val (.int ff), .val (.ref a51), .val (.ref r79), .val (.int (1 : Int32))] []))
    refine own_Goes.st ?_ (fun _ k => XS.iconst X79.here hx rfl (hb hby at_174) k)
    show own_Goes p.tables e below P (T79.setTop (mkF m 175 #[.val (.int p0), .val (.int p1), .val (.int p2), .val (.int p3), .val (.int p4), .val (.int p5), .val (.int (2 : Int32)), .val (.int ff), .val (.ref a51), .val (.ref r79), .val (.int (1 : Int32))] [(.int (1 : Int32))]))
    refine own_Goes.st ?_ (fun _ k => XS.goto X79.here hx rfl (pc0 := 175) (pc' := 179) rfl (hb hby at_175) (by decide) (by decide) k)
    show own_Goes p.tables e below P (T79.setTop (mkF m 179 #[.val (.int p0), .val (.int p1), .val (.int p2), .val (.int p3), .val (.int p4), .val (.int p5), .val (.int (2 : Int32)), .val (.int ff), .val (.ref a51), .val (.ref r79), .val (.int (1 : Int32))] [(.int (1 : Int32))]))
    refine own_Goes.st ?_ (fun _ k => XS.istore X79.here hx rfl (hb hby at_179) rfl (l' := #[.val (.int p0), .val (.int p1), .val (.int p2), .val (.int p3), .val (.int p4), .val (.int p5), .val (.int (2 : Int32)), .val (.int ff), .val (.ref a51), .val (.ref r79), .val (.int (1 : Int32))]) rfl k)
    show own_Goes p.tables e below P (T79.setTop (mkF m 181 #[.val (.int p0), .val (.int p1), .val (.int p2), .val (.int p3), .val (.int p4), .val (.int p5), .val (.int (2 : Int32)), .val (.int ff), .val (.ref a51), .val (.ref r79), .val (.int (1 : Int32))] []))
    refine own_Goes.st ?_ (fun _ k => XS.iload X79.here hx rfl (hb hby at_181) rfl k)
    show own_Goes p.tables e below P (T79.setTop (mkF m 183 #[.val (.int p0), .val (.int p1), .val (.int p2), .val (.int p3), .val (.int p4), .val (.int p5), .val (.int (2 : Int32)), .val (.int ff), .val (.ref a51), .val (.ref r79), .val (.int (1 : Int32))] [(.int (2 : Int32))]))
    refine own_Goes.st ?_ (fun _ k => XS.iconst X79.here hx rfl (hb hby at_183) k)
    show own_Goes p.tables e below P (T79.setTop (mkF m 184 #[.val (.int p0), .val (.int p1), .val (.int p2), .val (.int p3), .val (.int p4), .val (.int p5), .val (.int (2 : Int32)), .val (.int ff), .val (.ref a51), .val (.ref r79), .val (.int (1 : Int32))] [(.int (2 : Int32)), (.int (2 : Int32))]))
    refine own_Goes.st ?_ (fun _ k => XS.icmpYes X79.here hx rfl (pc0 := 184) (pc' := 207) rfl (hb hby at_184) rfl (flt (by decide : ¬ ((2 : Int32) < (2 : Int32)))).2.2.2 (by decide) (by decide) k)
    show own_Goes p.tables e below P (T79.setTop (mkF m 207 #[.val (.int p0), .val (.int p1), .val (.int p2), .val (.int p3), .val (.int p4), .val (.int p5), .val (.int (2 : Int32)), .val (.int ff), .val (.ref a51), .val (.ref r79), .val (.int (1 : Int32))] []))
    refine own_Goes.st ?_ (fun _ k => XS.iload X79.here hx rfl (hb hby at_207) rfl k)
    show own_Goes p.tables e below P (T79.setTop (mkF m 209 #[.val (.int p0), .val (.int p1), .val (.int p2), .val (.int p3), .val (.int p4), .val (.int p5), .val (.int (2 : Int32)), .val (.int ff), .val (.ref a51), .val (.ref r79), .val (.int (1 : Int32))] [(.int (2 : Int32))]))
    refine own_Goes.st ?_ (fun _ k => XS.iconst X79.here hx rfl (hb hby at_209) k)
    show own_Goes p.tables e below P (T79.setTop (mkF m 210 #[.val (.int p0), .val (.int p1), .val (.int p2), .val (.int p3), .val (.int p4), .val (.int p5), .val (.int (2 : Int32)), .val (.int ff), .val (.ref a51), .val (.ref r79), .val (.int (1 : Int32))] [(.int (3 : Int32)), (.int (2 : Int32))]))
    refine own_Goes.st ?_ (fun _ k => XS.icmpYes X79.here hx rfl (pc0 := 210) (pc' := 234) rfl (hb hby at_210) rfl (flt (by decide : ¬ ((3 : Int32) < (2 : Int32)))).2.2.2 (by decide) (by decide) k)
    show own_Goes p.tables e below P (T79.setTop (mkF m 234 #[.val (.int p0), .val (.int p1), .val (.int p2), .val (.int p3), .val (.int p4), .val (.int p5), .val (.int (2 : Int32)), .val (.int ff), .val (.ref a51), .val (.ref r79), .val (.int (1 : Int32))] []))
    refine own_Goes.st ?_ (fun _ k => XS.iload X79.here hx rfl (hb hby at_234) rfl k)
    show own_Goes p.tables e below P (T79.setTop (mkF m 236 #[.val (.int p0), .val (.int p1), .val (.int p2), .val (.int p3), .val (.int p4), .val (.int p5), .val (.int (2 : Int32)), .val (.int ff), .val (.ref a51), .val (.ref r79), .val (.int (1 : Int32))] [(.int (2 : Int32))]))
    refine own_Goes.st ?_ (fun _ k => XS.iconst X79.here hx rfl (hb hby at_236) k)
    show own_Goes p.tables e below P (T79.setTop (mkF m 237 #[.val (.int p0), .val (.int p1), .val (.int p2), .val (.int p3), .val (.int p4), .val (.int p5), .val (.int (2 : Int32)), .val (.int ff), .val (.ref a51), .val (.ref r79), .val (.int (1 : Int32))] [(.int (4 : Int32)), (.int (2 : Int32))]))
    refine own_Goes.st ?_ (fun _ k => XS.icmpYes X79.here hx rfl (pc0 := 237) (pc' := 261) rfl (hb hby at_237) rfl (flt (by decide : ¬ ((4 : Int32) < (2 : Int32)))).2.2.2 (by decide) (by decide) k)
    show own_Goes p.tables e below P (T79.setTop (mkF m 261 #[.val (.int p0), .val (.int p1), .val (.int p2), .val (.int p3), .val (.int p4), .val (.int p5), .val (.int (2 : Int32)), .val (.int ff), .val (.ref a51), .val (.ref r79), .val (.int (1 : Int32))] []))
    refine own_Goes.st ?_ (fun _ k => XS.iload X79.here hx rfl (hb hby at_261) rfl k)
    show own_Goes p.tables e below P (T79.setTop (mkF m 263 #[.val (.int p0), .val (.int p1), .val (.int p2), .val (.int p3), .val (.int p4), .val (.int p5), .val (.int (2 : Int32)), .val (.int ff), .val (.ref a51), .val (.ref r79), .val (.int (1 : Int32))] [(.int (2 : Int32))]))
    refine own_Goes.st ?_ (fun _ k => XS.iconst X79.here hx rfl (hb hby at_263) k)
    show own_Goes p.tables e below P (T79.setTop (mkF m 264 #[.val (.int p0), .val (.int p1), .val (.int p2), .val (.int p3), .val (.int p4), .val (.int p5), .val (.int (2 : Int32)), .val (.int ff), .val (.ref a51), .val (.ref r79), .val (.int (1 : Int32))] [(.int (5 : Int32)), (.int (2 : Int32))]))
    refine own_Goes.st ?_ (fun _ k => XS.icmpYes X79.here hx rfl (pc0 := 264) (pc' := 288) rfl (hb hby at_264) rfl (flt (by decide : ¬ ((5 : Int32) < (2 : Int32)))).2.2.2 (by decide) (by decide) k)
    show own_Goes p.tables e below P (T79.setTop (mkF m 288 #[.val (.int p0), .val (.int p1), .val (.int p2), .val (.int p3), .val (.int p4), .val (.int p5), .val (.int (2 : Int32)), .val (.int ff), .val (.ref a51), .val (.ref r79), .val (.int (1 : Int32))] []))
    refine own_Goes.st ?_ (fun _ k => XS.iload X79.here hx rfl (hb hby at_288) rfl k)
    show own_Goes p.tables e below P (T79.setTop (mkF m 290 #[.val (.int p0), .val (.int p1), .val (.int p2), .val (.int p3), .val (.int p4), .val (.int p5), .val (.int (2 : Int32)), .val (.int ff), .val (.ref a51), .val (.ref r79), .val (.int (1 : Int32))] [(.int (1 : Int32))]))
    obtain ⟨fs, hr, hrun, hended, hW, hsame⟩ := X79.leave (v := some (.int (1 : Int32))) (fun h => by rw [Bd.returns] at h; cases h)
    exact own_Goes.fin _ _ (retOut X79 hx (t := .boolean) Bd.returns rfl (Or.inl ⟨rfl, Or.inr (Or.inl rfl), _, rfl⟩) (hb hby at_290) hr) (hPP _ _ ⟨hrun, hended, _, _, rfl, (by show Q_law n0 _ _; exact ⟨rfl, N79⟩), ⟨_, rfl⟩, hW, hsame.mono (by decide) (by decide)⟩)
  · skip
    show own_Goes p.tables e below P (s₁.setTop (mkF m 15 #[.val (.int p0), .val (.int p1), .val (.int p2), .val (.int p3), .val (.int p4), .val (.int p5), .val (.int (3 : Int32)), .val (.int ff), .unset, .unset, .unset] []))
    obtain ⟨T88, h88, X88, e88, E88, A88, D88, -, st88⟩ := newO X0 hx hZ hown (hw _ (List.mem_of_getElem? (i := 2) rfl)) (hw _ (List.mem_of_getElem? (i := 3) rfl)) (hw _ (List.mem_of_getElem? (i := 4) rfl)) e0 (g := (mkF m 15 #[.val (.int p0), .val (.int p1), .val (.int p2), .val (.int p3), .val (.int p4), .val (.int p5), .val (.int (3 : Int32)), .val (.int ff), .unset, .unset, .unset] [])) rfl (hb hby at_15) (by decide) (by decide)
    obtain ⟨a88, g88⟩ : ∃ z, z = h0.size := ⟨_, rfl⟩
    rw [← g88] at A88 D88 st88
    have ge_a88 : n0 ≤ a88 := Nat.le_trans Z0 (Nat.le_of_eq g88.symm)
    refine own_Goes.st ?_ st88
    have Z89 : n0 ≤ h88.size := Nat.le_trans Z0 E88.1
    have F90 : Fld Z h88 a88 "com/example/usnea/usnea/datalog/IntList" "values" "[I" .null := D88 (Or.inl (hw _ (List.mem_of_getElem? (i := 13) rfl))) (ty := (.array .int)) (by decide)
    have F91 : Fld Z h88 a88 "com/example/usnea/usnea/datalog/IntList" "size" "I" (.int (0 : Int32)) := D88 (Or.inl (hw _ (List.mem_of_getElem? (i := 20) rfl))) (ty := .int) (by decide)
    show own_Goes p.tables e below P (T88.setTop (mkF m 18 #[.val (.int p0), .val (.int p1), .val (.int p2), .val (.int p3), .val (.int p4), .val (.int p5), .val (.int (3 : Int32)), .val (.int ff), .unset, .unset, .unset] [(.ref a88)]))
    refine own_Goes.st ?_ (fun _ k => XS.dup X88.here hx rfl (hb hby at_18) rfl rfl k)
    show own_Goes p.tables e below P (T88.setTop (mkF m 19 #[.val (.int p0), .val (.int p1), .val (.int p2), .val (.int p3), .val (.int p4), .val (.int p5), .val (.int (3 : Int32)), .val (.int ff), .unset, .unset, .unset] [(.ref a88), (.ref a88)]))
    obtain ⟨_, _, ⟨T92, L92, k92, n92⟩, -, X92, ⟨Lc92, hQ92, l92, y92, z92⟩, st92⟩ := X88.specialBack hx (y := (⟨"com/example/usnea/usnea/datalog/IntList", "<init>", "()V"⟩ : MethodName)) rfl hown (mvT hZ (hw _ (List.mem_of_getElem? (i := 5) rfl))) (mvT hZ (hw _ (List.mem_of_getElem? (i := 6) rfl))) (mvT hZ (hw _ (List.mem_of_getElem? (i := 7) rfl))) (by decide) (backOf (W := 1) (rm_ctor l Z a0 hw [] a88 .null h88 n0 Z89 A88 F90 F91 ge_a88) hZ (hw _ (List.mem_of_getElem? (i := 7) rfl)) (hw _ (List.mem_of_getElem? (i := 4) rfl)) (by decide) (by decide)) (g := (mkF m 19 #[.val (.int p0), .val (.int p1), .val (.int p2), .val (.int p3), .val (.int p4), .val (.int p5), .val (.int (3 : Int32)), .val (.int ff), .unset, .unset, .unset] [(.ref a88), (.ref a88)])) rfl (by rw [hml]; rfl) (Steps.refl _) (a := a88) (argsL := []) (rest := [(.ref a88)]) (lenOf own_pd__28__29_V rfl) rfl (by show 2 * 0 + _ ≤ _; exact Nat.le_of_eq rfl) (hb hby at_19) (fun _ _ => ⟨rfl, e88, (by decide : 1 + 1 ≤ _), (by decide : 2 + 4 ≤ _)⟩)
    dsimp only [Pt.U, Pt.locs, Pt.cells, Pt.slots] at X92 l92 y92 z92 st92 hQ92
    rw [l92, y92, z92] at X92
    obtain ⟨b92, k92, rfl, Nq92, K92, f93, f94, f95, f96, f97, f98⟩ := hQ92
    have N92 := Fr.app N0 Nq92
    refine own_Goes.tr st92 ?_
    have ne99 : a88 ≠ b92 := Nat.ne_of_lt (Nat.lt_of_lt_of_le A88.lt f96)
    have ge_b92 : n0 ≤ b92 := Nat.le_trans Z89 f96
    have Z100 : n0 ≤ T92.heap.size := Nat.le_trans Z89 K92.1
    show own_Goes p.tables e below P (T92.setTop (mkF m 22 #[.val (.int p0), .val (.int p1), .val (.int p2), .val (.int p3), .val (.int p4), .val (.int p5), .val (.int (3 : Int32)), .val (.int ff), .unset, .unset, .unset] [(.ref a88)]))
    refine own_Goes.st ?_ (fun _ k => XS.astore X92.here hx rfl (hb hby at_22) rfl rfl (l' := #[.val (.int p0), .val (.int p1), .val (.int p2), .val (.int p3), .val (.int p4), .val (.int p5), .val (.int (3 : Int32)), .val (.int ff), .val (.ref a88), .unset, .unset]) rfl k)
    show own_Goes p.tables e below P (T92.setTop (mkF m 24 #[.val (.int p0), .val (.int p1), .val (.int p2), .val (.int p3), .val (.int p4), .val (.int p5), .val (.int (3 : Int32)), .val (.int ff), .val (.ref a88), .unset, .unset] []))
    refine own_Goes.st ?_ (fun _ k => XS.iload X92.here hx rfl (hb hby at_24) rfl k)
    show own_Goes p.tables e below P (T92.setTop (mkF m 26 #[.val (.int p0), .val (.int p1), .val (.int p2), .val (.int p3), .val (.int p4), .val (.int p5), .val (.int (3 : Int32)), .val (.int ff), .val (.ref a88), .unset, .unset] [(.int (3 : Int32))]))
    refine own_Goes.st ?_ (fun _ k => XS.ifNo X92.here hx rfl (hb hby at_26) rfl ((if0 _ _).trans (tlt (by decide : (0 : Int32) < (3 : Int32))).2.2.2) k)
    show own_Goes p.tables e below P (T92.setTop (mkF m 29 #[.val (.int p0), .val (.int p1), .val (.int p2), .val (.int p3), .val (.int p4), .val (.int p5), .val (.int (3 : Int32)), .val (.int ff), .val (.ref a88), .unset, .unset] []))
    refine own_Goes.st ?_ (fun _ k => XS.aload X92.here hx rfl (hb hby at_29) rfl rfl k)
    show own_Goes p.tables e below P (T92.setTop (mkF m 31 #[.val (.int p0), .val (.int p1), .val (.int p2), .val (.int p3), .val (.int p4), .val (.int p5), .val (.int (3 : Int32)), .val (.int ff), .val (.ref a88), .unset, .unset] [(.ref a88)]))
    refine own_Goes.st ?_ (fun _ k => XS.iloadN X92.here hx rfl (hb hby at_31) rfl k)
    show own_Goes p.tables e below P (T92.setTop (mkF m 32 #[.val (.int p0), .val (.int p1), .val (.int p2), .val (.int p3), .val (.int p4), .val (.int p5), .val (.int (3 : Int32)), .val (.int ff), .val (.ref a88), .unset, .unset] [(.int p1), (.ref a88)]))
    obtain ⟨cq101, kq101, q101a, q101b, q101c⟩ := isOf hZ rfl f93
    obtain ⟨_, _, ⟨T101, L101, k101, n101⟩, -, X101, ⟨Lc101, hQ101, l101, y101, z101⟩, st101⟩ := X92.virtualBack hx (y := (⟨"com/example/usnea/usnea/datalog/IntList", "add", "(I)V"⟩ : MethodName)) (z := (⟨"com/example/usnea/usnea/datalog/IntList", "add", "(I)V"⟩ : MethodName)) hown (mvT hZ (hw _ (List.mem_of_getElem? (i := 38) rfl))) (mvT hZ (hw _ (List.mem_of_getElem? (i := 39) rfl))) (notFace_of_selects (args := #[]) (mvT hZ (hw _ (List.mem_of_getElem? (i := 41) rfl)))) (mvT hZ (hw _ (List.mem_of_getElem? (i := 41) rfl))) (mvT hZ (hw _ (List.mem_of_getElem? (i := 40) rfl))) (by decide) (backOf (W := 0) (rm_add_0 l Z a0 hw [] a88 p1 b92 k92 T92.heap n0 Z100 f93 f94 f95 f97 f98 ge_a88 ge_b92 ne99) hZ (hw _ (List.mem_of_getElem? (i := 42) rfl)) (hw _ (List.mem_of_getElem? (i := 4) rfl)) (by decide) (by decide)) q101a q101c (g := (mkF m 32 #[.val (.int p0), .val (.int p1), .val (.int p2), .val (.int p3), .val (.int p4), .val (.int p5), .val (.int (3 : Int32)), .val (.int ff), .val (.ref a88), .unset, .unset] [(.int p1), (.ref a88)])) rfl (by rw [hml]; rfl) (Steps.refl _) (argsL := [(.int p1)]) (rest := []) (lenOf own_pd__28_I_29_V rfl) rfl (by show 2 * 0 + _ ≤ _; exact Nat.le_of_eq rfl) (hb hby at_32) (fun _ _ => ⟨rfl, rfl, (by decide : 2 + 0 ≤ _), (by decide : 6 + 0 ≤ _)⟩)
    dsimp only [Pt.U, Pt.locs, Pt.cells, Pt.slots] at X101 l101 y101 z101 st101 hQ101
    rw [l101, y101, z101] at X101
    obtain ⟨rfl, Nq101, K101, f102, f103, f104, f105, f106⟩ := hQ101
    have N101 := Fr.app N92 Nq101
    refine own_Goes.tr st101 ?_
    have Z107 : n0 ≤ T101.heap.size := Nat.le_trans Z100 K101.1
    show own_Goes p.tables e below P (T101.setTop (mkF m 35 #[.val (.int p0), .val (.int p1), .val (.int p2), .val (.int p3), .val (.int p4), .val (.int p5), .val (.int (3 : Int32)), .val (.int ff), .val (.ref a88), .unset, .unset] []))
    refine own_Goes.st ?_ (fun _ k => XS.iload X101.here hx rfl (hb hby at_35) rfl k)
    show own_Goes p.tables e below P (T101.setTop (mkF m 37 #[.val (.int p0), .val (.int p1), .val (.int p2), .val (.int p3), .val (.int p4), .val (.int p5), .val (.int (3 : Int32)), .val (.int ff), .val (.ref a88), .unset, .unset] [(.int (3 : Int32))]))
    refine own_Goes.st ?_ (fun _ k => XS.iconst X101.here hx rfl (hb hby at_37) k)
    show own_Goes p.tables e below P (T101.setTop (mkF m 38 #[.val (.int p0), .val (.int p1), .val (.int p2), .val (.int p3), .val (.int p4), .val (.int p5), .val (.int (3 : Int32)), .val (.int ff), .val (.ref a88), .unset, .unset] [(.int (1 : Int32)), (.int (3 : Int32))]))
    refine own_Goes.st ?_ (fun _ k => XS.icmpNo X101.here hx rfl (hb hby at_38) rfl (tlt (by decide : (1 : Int32) < (3 : Int32))).2.2.2 k)
    show own_Goes p.tables e below P (T101.setTop (mkF m 41 #[.val (.int p0), .val (.int p1), .val (.int p2), .val (.int p3), .val (.int p4), .val (.int p5), .val (.int (3 : Int32)), .val (.int ff), .val (.ref a88), .unset, .unset] []))
    refine own_Goes.st ?_ (fun _ k => XS.aload X101.here hx rfl (hb hby at_41) rfl rfl k)
    show own_Goes p.tables e below P (T101.setTop (mkF m 43 #[.val (.int p0), .val (.int p1), .val (.int p2), .val (.int p3), .val (.int p4), .val (.int p5), .val (.int (3 : Int32)), .val (.int ff), .val (.ref a88), .unset, .unset] [(.ref a88)]))
    refine own_Goes.st ?_ (fun _ k => XS.iloadN X101.here hx rfl (hb hby at_43) rfl k)
    show own_Goes p.tables e below P (T101.setTop (mkF m 44 #[.val (.int p0), .val (.int p1), .val (.int p2), .val (.int p3), .val (.int p4), .val (.int p5), .val (.int (3 : Int32)), .val (.int ff), .val (.ref a88), .unset, .unset] [(.int p2), (.ref a88)]))
    obtain ⟨cq108, kq108, q108a, q108b, q108c⟩ := isOf hZ rfl f102
    obtain ⟨_, _, ⟨T108, L108, k108, n108⟩, -, X108, ⟨Lc108, hQ108, l108, y108, z108⟩, st108⟩ := X101.virtualBack hx (y := (⟨"com/example/usnea/usnea/datalog/IntList", "add", "(I)V"⟩ : MethodName)) (z := (⟨"com/example/usnea/usnea/datalog/IntList", "add", "(I)V"⟩ : MethodName)) hown (mvT hZ (hw _ (List.mem_of_getElem? (i := 38) rfl))) (mvT hZ (hw _ (List.mem_of_getElem? (i := 39) rfl))) (notFace_of_selects (args := #[]) (mvT hZ (hw _ (List.mem_of_getElem? (i := 41) rfl)))) (mvT hZ (hw _ (List.mem_of_getElem? (i := 41) rfl))) (mvT hZ (hw _ (List.mem_of_getElem? (i := 40) rfl))) (by decide) (backOf (W := 0) (rm_add_1 l Z a0 hw [] a88 p2 b92 k92 p1 T101.heap n0 Z107 f102 f103 f104 f105 f106 ge_a88 ge_b92 ne99) hZ (hw _ (List.mem_of_getElem? (i := 42) rfl)) (hw _ (List.mem_of_getElem? (i := 4) rfl)) (by decide) (by decide)) q108a q108c (g := (mkF m 44 #[.val (.int p0), .val (.int p1), .val (.int p2), .val (.int p3), .val (.int p4), .val (.int p5), .val (.int (3 : Int32)), .val (.int ff), .val (.ref a88), .unset, .unset] [(.int p2), (.ref a88)])) rfl (by rw [hml]; rfl) (Steps.refl _) (argsL := [(.int p2)]) (rest := []) (lenOf own_pd__28_I_29_V rfl) rfl (by show 2 * 0 + _ ≤ _; exact Nat.le_of_eq rfl) (hb hby at_44) (fun _ _ => ⟨rfl, rfl, (by decide : 2 + 0 ≤ _), (by decide : 6 + 0 ≤ _)⟩)
    dsimp only [Pt.U, Pt.locs, Pt.cells, Pt.slots] at X108 l108 y108 z108 st108 hQ108
    rw [l108, y108, z108] at X108
    obtain ⟨rfl, Nq108, K108, f109, f110, f111, f112, f113⟩ := hQ108
    have N108 := Fr.app N101 Nq108
    refine own_Goes.tr st108 ?_
    have Z114 : n0 ≤ T108.heap.size := Nat.le_trans Z107 K108.1
    show own_Goes p.tables e below P (T108.setTop (mkF m 47 #[.val (.int p0), .val (.int p1), .val (.int p2), .val (.int p3), .val (.int p4), .val (.int p5), .val (.int (3 : Int32)), .val (.int ff), .val (.ref a88), .unset, .unset] []))
    refine own_Goes.st ?_ (fun _ k => XS.iload X108.here hx rfl (hb hby at_47) rfl k)
    show own_Goes p.tables e below P (T108.setTop (mkF m 49 #[.val (.int p0), .val (.int p1), .val (.int p2), .val (.int p3), .val (.int p4), .val (.int p5), .val (.int (3 : Int32)), .val (.int ff), .val (.ref a88), .unset, .unset] [(.int (3 : Int32))]))
    refine own_Goes.st ?_ (fun _ k => XS.iconst X108.here hx rfl (hb hby at_49) k)
    show own_Goes p.tables e below P (T108.setTop (mkF m 50 #[.val (.int p0), .val (.int p1), .val (.int p2), .val (.int p3), .val (.int p4), .val (.int p5), .val (.int (3 : Int32)), .val (.int ff), .val (.ref a88), .unset, .unset] [(.int (2 : Int32)), (.int (3 : Int32))]))
    refine own_Goes.st ?_ (fun _ k => XS.icmpNo X108.here hx rfl (hb hby at_50) rfl (tlt (by decide : (2 : Int32) < (3 : Int32))).2.2.2 k)
    show own_Goes p.tables e below P (T108.setTop (mkF m 53 #[.val (.int p0), .val (.int p1), .val (.int p2), .val (.int p3), .val (.int p4), .val (.int p5), .val (.int (3 : Int32)), .val (.int ff), .val (.ref a88), .unset, .unset] []))
    refine own_Goes.st ?_ (fun _ k => XS.aload X108.here hx rfl (hb hby at_53) rfl rfl k)
    show own_Goes p.tables e below P (T108.setTop (mkF m 55 #[.val (.int p0), .val (.int p1), .val (.int p2), .val (.int p3), .val (.int p4), .val (.int p5), .val (.int (3 : Int32)), .val (.int ff), .val (.ref a88), .unset, .unset] [(.ref a88)]))
    refine own_Goes.st ?_ (fun _ k => XS.iloadN X108.here hx rfl (hb hby at_55) rfl k)
    show own_Goes p.tables e below P (T108.setTop (mkF m 56 #[.val (.int p0), .val (.int p1), .val (.int p2), .val (.int p3), .val (.int p4), .val (.int p5), .val (.int (3 : Int32)), .val (.int ff), .val (.ref a88), .unset, .unset] [(.int p3), (.ref a88)]))
    obtain ⟨cq115, kq115, q115a, q115b, q115c⟩ := isOf hZ rfl f109
    obtain ⟨_, _, ⟨T115, L115, k115, n115⟩, -, X115, ⟨Lc115, hQ115, l115, y115, z115⟩, st115⟩ := X108.virtualBack hx (y := (⟨"com/example/usnea/usnea/datalog/IntList", "add", "(I)V"⟩ : MethodName)) (z := (⟨"com/example/usnea/usnea/datalog/IntList", "add", "(I)V"⟩ : MethodName)) hown (mvT hZ (hw _ (List.mem_of_getElem? (i := 38) rfl))) (mvT hZ (hw _ (List.mem_of_getElem? (i := 39) rfl))) (notFace_of_selects (args := #[]) (mvT hZ (hw _ (List.mem_of_getElem? (i := 41) rfl)))) (mvT hZ (hw _ (List.mem_of_getElem? (i := 41) rfl))) (mvT hZ (hw _ (List.mem_of_getElem? (i := 40) rfl))) (by decide) (backOf (W := 0) (rm_add_2 l Z a0 hw [] a88 p3 b92 k92 p1 p2 T108.heap n0 Z114 f109 f110 f111 f112 f113 ge_a88 ge_b92 ne99) hZ (hw _ (List.mem_of_getElem? (i := 42) rfl)) (hw _ (List.mem_of_getElem? (i := 4) rfl)) (by decide) (by decide)) q115a q115c (g := (mkF m 56 #[.val (.int p0), .val (.int p1), .val (.int p2), .val (.int p3), .val (.int p4), .val (.int p5), .val (.int (3 : Int32)), .val (.int ff), .val (.ref a88), .unset, .unset] [(.int p3), (.ref a88)])) rfl (by rw [hml]; rfl) (Steps.refl _) (argsL := [(.int p3)]) (rest := []) (lenOf own_pd__28_I_29_V rfl) rfl (by show 2 * 0 + _ ≤ _; exact Nat.le_of_eq rfl) (hb hby at_56) (fun _ _ => ⟨rfl, rfl, (by decide : 2 + 0 ≤ _), (by decide : 6 + 0 ≤ _)⟩)
    dsimp only [Pt.U, Pt.locs, Pt.cells, Pt.slots] at X115 l115 y115 z115 st115 hQ115
    rw [l115, y115, z115] at X115
    obtain ⟨rfl, Nq115, K115, f116, f117, f118, f119, f120⟩ := hQ115
    have N115 := Fr.app N108 Nq115
    refine own_Goes.tr st115 ?_
    have Z121 : n0 ≤ T115.heap.size := Nat.le_trans Z114 K115.1
    show own_Goes p.tables e below P (T115.setTop (mkF m 59 #[.val (.int p0), .val (.int p1), .val (.int p2), .val (.int p3), .val (.int p4), .val (.int p5), .val (.int (3 : Int32)), .val (.int ff), .val (.ref a88), .unset, .unset] []))
    refine own_Goes.st ?_ (fun _ k => XS.iload X115.here hx rfl (hb hby at_59) rfl k)
    show own_Goes p.tables e below P (T115.setTop (mkF m 61 #[.val (.int p0), .val (.int p1), .val (.int p2), .val (.int p3), .val (.int p4), .val (.int p5), .val (.int (3 : Int32)), .val (.int ff), .val (.ref a88), .unset, .unset] [(.int (3 : Int32))]))
    refine own_Goes.st ?_ (fun _ k => XS.iconst X115.here hx rfl (hb hby at_61) k)
    show own_Goes p.tables e below P (T115.setTop (mkF m 62 #[.val (.int p0), .val (.int p1), .val (.int p2), .val (.int p3), .val (.int p4), .val (.int p5), .val (.int (3 : Int32)), .val (.int ff), .val (.ref a88), .unset, .unset] [(.int (3 : Int32)), (.int (3 : Int32))]))
    refine own_Goes.st ?_ (fun _ k => XS.icmpYes X115.here hx rfl (pc0 := 62) (pc' := 72) rfl (hb hby at_62) rfl (flt (by decide : ¬ ((3 : Int32) < (3 : Int32)))).2.2.2 (by decide) (by decide) k)
    show own_Goes p.tables e below P (T115.setTop (mkF m 72 #[.val (.int p0), .val (.int p1), .val (.int p2), .val (.int p3), .val (.int p4), .val (.int p5), .val (.int (3 : Int32)), .val (.int ff), .val (.ref a88), .unset, .unset] []))
    refine own_Goes.st ?_ (fun _ k => XS.iload X115.here hx rfl (hb hby at_72) rfl k)
    show own_Goes p.tables e below P (T115.setTop (mkF m 74 #[.val (.int p0), .val (.int p1), .val (.int p2), .val (.int p3), .val (.int p4), .val (.int p5), .val (.int (3 : Int32)), .val (.int ff), .val (.ref a88), .unset, .unset] [(.int (3 : Int32))]))
    refine own_Goes.st ?_ (fun _ k => XS.iconst X115.here hx rfl (hb hby at_74) k)
    show own_Goes p.tables e below P (T115.setTop (mkF m 75 #[.val (.int p0), .val (.int p1), .val (.int p2), .val (.int p3), .val (.int p4), .val (.int p5), .val (.int (3 : Int32)), .val (.int ff), .val (.ref a88), .unset, .unset] [(.int (4 : Int32)), (.int (3 : Int32))]))
    refine own_Goes.st ?_ (fun _ k => XS.icmpYes X115.here hx rfl (pc0 := 75) (pc' := 85) rfl (hb hby at_75) rfl (flt (by decide : ¬ ((4 : Int32) < (3 : Int32)))).2.2.2 (by decide) (by decide) k)
    show own_Goes p.tables e below P (T115.setTop (mkF m 85 #[.val (.int p0), .val (.int p1), .val (.int p2), .val (.int p3), .val (.int p4), .val (.int p5), .val (.int (3 : Int32)), .val (.int ff), .val (.ref a88), .unset, .unset] []))
    refine own_Goes.st ?_ (fun _ k => XS.iload X115.here hx rfl (hb hby at_85) rfl k)
    show own_Goes p.tables e below P (T115.setTop (mkF m 87 #[.val (.int p0), .val (.int p1), .val (.int p2), .val (.int p3), .val (.int p4), .val (.int p5), .val (.int (3 : Int32)), .val (.int ff), .val (.ref a88), .unset, .unset] [(.int (3 : Int32))]))
    refine own_Goes.st ?_ (fun _ k => XS.iconst X115.here hx rfl (hb hby at_87) k)
    show own_Goes p.tables e below P (T115.setTop (mkF m 88 #[.val (.int p0), .val (.int p1), .val (.int p2), .val (.int p3), .val (.int p4), .val (.int p5), .val (.int (3 : Int32)), .val (.int ff), .val (.ref a88), .unset, .unset] [(.int (5 : Int32)), (.int (3 : Int32))]))
    refine own_Goes.st ?_ (fun _ k => XS.icmpYes X115.here hx rfl (pc0 := 88) (pc' := 98) rfl (hb hby at_88) rfl (flt (by decide : ¬ ((5 : Int32) < (3 : Int32)))).2.2.2 (by decide) (by decide) k)
    show own_Goes p.tables e below P (T115.setTop (mkF m 98 #[.val (.int p0), .val (.int p1), .val (.int p2), .val (.int p3), .val (.int p4), .val (.int p5), .val (.int (3 : Int32)), .val (.int ff), .val (.ref a88), .unset, .unset] []))
    refine own_Goes.st ?_ (fun _ k => XS.aload X115.here hx rfl (hb hby at_98) rfl rfl k)
    show own_Goes p.tables e below P (T115.setTop (mkF m 100 #[.val (.int p0), .val (.int p1), .val (.int p2), .val (.int p3), .val (.int p4), .val (.int p5), .val (.int (3 : Int32)), .val (.int ff), .val (.ref a88), .unset, .unset] [(.ref a88)]))
    obtain ⟨cq122, kq122, q122a, q122b, q122c⟩ := isOf hZ rfl f116
    obtain ⟨_, _, ⟨T122, L122, k122, n122⟩, -, X122, ⟨Lc122, hQ122, l122, y122, z122⟩, st122⟩ := X115.virtualBack hx (y := (⟨"com/example/usnea/usnea/datalog/IntList", "size", "()I"⟩ : MethodName)) (z := (⟨"com/example/usnea/usnea/datalog/IntList", "size", "()I"⟩ : MethodName)) hown (mvT hZ (hw _ (List.mem_of_getElem? (i := 14) rfl))) (mvT hZ (hw _ (List.mem_of_getElem? (i := 15) rfl))) (notFace_of_selects (args := #[]) (mvT hZ (hw _ (List.mem_of_getElem? (i := 17) rfl)))) (mvT hZ (hw _ (List.mem_of_getElem? (i := 17) rfl))) (mvT hZ (hw _ (List.mem_of_getElem? (i := 16) rfl))) (by decide) (backOf (W := 0) (rm_size l Z a0 hw [] a88 (3 : Int32) T115.heap n0 Z121 f118) hZ (hw _ (List.mem_of_getElem? (i := 18) rfl)) (hw _ (List.mem_of_getElem? (i := 4) rfl)) (by decide) (by decide)) q122a q122c (g := (mkF m 100 #[.val (.int p0), .val (.int p1), .val (.int p2), .val (.int p3), .val (.int p4), .val (.int p5), .val (.int (3 : Int32)), .val (.int ff), .val (.ref a88), .unset, .unset] [(.ref a88)])) rfl (by rw [hml]; rfl) (Steps.refl _) (argsL := []) (rest := []) (lenOf own_pd__28__29_I rfl) rfl (by show 2 * 0 + _ ≤ _; exact Nat.le_of_eq rfl) (hb hby at_100) (fun _ _ => ⟨rfl, rfl, (by decide : 2 + 0 ≤ _), (by decide : 6 + 0 ≤ _)⟩)
    dsimp only [Pt.U, Pt.locs, Pt.cells, Pt.slots] at X122 l122 y122 z122 st122 hQ122
    rw [l122, y122, z122] at X122
    obtain ⟨rfl, Nq122, e122⟩ := hQ122
    have N122 := Fr.app N115 Nq122
    refine own_Goes.tr st122 ?_
    show own_Goes p.tables e below P (T122.setTop (mkF m 103 #[.val (.int p0), .val (.int p1), .val (.int p2), .val (.int p3), .val (.int p4), .val (.int p5), .val (.int (3 : Int32)), .val (.int ff), .val (.ref a88), .unset, .unset] [(.int (3 : Int32))]))
    refine own_Goes.st ?_ (fun _ k => XS.iload X122.here hx rfl (hb hby at_103) rfl k)
    show own_Goes p.tables e below P (T122.setTop (mkF m 105 #[.val (.int p0), .val (.int p1), .val (.int p2), .val (.int p3), .val (.int p4), .val (.int p5), .val (.int (3 : Int32)), .val (.int ff), .val (.ref a88), .unset, .unset] [(.int (3 : Int32)), (.int (3 : Int32))]))
    refine own_Goes.st ?_ (fun _ k => XS.icmpYes X122.here hx rfl (pc0 := 105) (pc' := 110) rfl (hb hby at_105) rfl (teq (by decide : (3 : Int32) = (3 : Int32))).1 (by decide) (by decide) k)
    show own_Goes p.tables e below P (T122.setTop (mkF m 110 #[.val (.int p0), .val (.int p1), .val (.int p2), .val (.int p3), .val (.int p4), .val (.int p5), .val (.int (3 : Int32)), .val (.int ff), .val (.ref a88), .unset, .unset] []))
    refine own_Goes.st ?_ (fun _ k => XS.aload X122.here hx rfl (hb hby at_110) rfl rfl k)
    show own_Goes p.tables e below P (T122.setTop (mkF m 112 #[.val (.int p0), .val (.int p1), .val (.int p2), .val (.int p3), .val (.int p4), .val (.int p5), .val (.int (3 : Int32)), .val (.int ff), .val (.ref a88), .unset, .unset] [(.ref a88)]))
    obtain ⟨cq123, kq123, q123a, q123b, q123c⟩ := isOf hZ e122 f116
    obtain ⟨_, _, ⟨T123, L123, k123, n123⟩, -, X123, ⟨Lc123, hQ123, l123, y123, z123⟩, st123⟩ := X122.virtualBack hx (y := (⟨"com/example/usnea/usnea/datalog/IntList", "toArray", "()[I"⟩ : MethodName)) (z := (⟨"com/example/usnea/usnea/datalog/IntList", "toArray", "()[I"⟩ : MethodName)) hown (mvT hZ (hw _ (List.mem_of_getElem? (i := 21) rfl))) (mvT hZ (hw _ (List.mem_of_getElem? (i := 22) rfl))) (notFace_of_selects (args := #[]) (mvT hZ (hw _ (List.mem_of_getElem? (i := 24) rfl)))) (mvT hZ (hw _ (List.mem_of_getElem? (i := 24) rfl))) (mvT hZ (hw _ (List.mem_of_getElem? (i := 23) rfl))) (by decide) (backOf (W := 0) (rm_toarr_3 l Z a0 hw [] a88 b92 k92 p1 p2 p3 T115.heap n0 Z121 f117 f118 f119 f120) hZ (hw _ (List.mem_of_getElem? (i := 25) rfl)) (hw _ (List.mem_of_getElem? (i := 4) rfl)) (by decide) (by decide)) q123a q123c (g := (mkF m 112 #[.val (.int p0), .val (.int p1), .val (.int p2), .val (.int p3), .val (.int p4), .val (.int p5), .val (.int (3 : Int32)), .val (.int ff), .val (.ref a88), .unset, .unset] [(.ref a88)])) rfl (by rw [hml]; rfl) (Steps.refl _) (argsL := []) (rest := []) (lenOf own_pd__28__29__5b_I rfl) rfl (by show 2 * 0 + _ ≤ _; exact Nat.le_of_eq rfl) (hb hby at_112) (fun _ _ => ⟨rfl, e122, (by decide : 2 + 1 ≤ _), (by decide : 6 + 3 ≤ _)⟩)
    dsimp only [Pt.U, Pt.locs, Pt.cells, Pt.slots] at X123 l123 y123 z123 st123 hQ123
    rw [l123, y123, z123] at X123
    obtain ⟨r123, q123, rfl, Nq123, K123, f124, f125⟩ := hQ123
    have N123 := Fr.app N122 Nq123
    refine own_Goes.tr st123 ?_
    have ne126 : a88 ≠ r123 := Nat.ne_of_lt (Nat.lt_of_lt_of_le f116.lt f124)
    have ne127 : b92 ≠ r123 := Nat.ne_of_lt (Nat.lt_of_lt_of_le f120.lt f124)
    have ge_r123 : n0 ≤ r123 := Nat.le_trans Z121 f124
    have Z128 : n0 ≤ T123.heap.size := Nat.le_trans Z121 K123.1
    show own_Goes p.tables e below P (T123.setTop (mkF m 115 #[.val (.int p0), .val (.int p1), .val (.int p2), .val (.int p3), .val (.int p4), .val (.int p5), .val (.int (3 : Int32)), .val (.int ff), .val (.ref a88), .unset, .unset] [(.ref r123)]))
    refine own_Goes.st ?_ (fun _ k => XS.astore X123.here hx rfl (hb hby at_115) rfl rfl (l' := #[.val (.int p0), .val (.int p1), .val (.int p2), .val (.int p3), .val (.int p4), .val (.int p5), .val (.int (3 : Int32)), .val (.int ff), .val (.ref a88), .val (.ref r123), .unset]) rfl k)
    show own_Goes p.tables e below P (T123.setTop (mkF m 117 #[.val (.int p0), .val (.int p1), .val (.int p2), .val (.int p3), .val (.int p4), .val (.int p5), .val (.int (3 : Int32)), .val (.int ff), .val (.ref a88), .val (.ref r123), .unset] []))
    refine own_Goes.st ?_ (fun _ k => XS.aload X123.here hx rfl (hb hby at_117) rfl rfl k)
    show own_Goes p.tables e below P (T123.setTop (mkF m 119 #[.val (.int p0), .val (.int p1), .val (.int p2), .val (.int p3), .val (.int p4), .val (.int p5), .val (.int (3 : Int32)), .val (.int ff), .val (.ref a88), .val (.ref r123), .unset] [(.ref r123)]))
    have Vc129 := f125
    obtain ⟨cl129, Ar129, qc129, S129, Nn129, Hs129, Gs129⟩ := Vc129
    refine own_Goes.st ?_ (X123.arraylength hx Ar129.1 (State.isArrayOf_alike hZ.alike Ar129.2.1) (g := (mkF m 119 #[.val (.int p0), .val (.int p1), .val (.int p2), .val (.int p3), .val (.int p4), .val (.int p5), .val (.int (3 : Int32)), .val (.int ff), .val (.ref a88), .val (.ref r123), .unset] [(.ref r123)])) rfl rfl (hb hby at_119))
    rw [len_of S129 Nn129]
    show own_Goes p.tables e below P (T123.setTop (mkF m 120 #[.val (.int p0), .val (.int p1), .val (.int p2), .val (.int p3), .val (.int p4), .val (.int p5), .val (.int (3 : Int32)), .val (.int ff), .val (.ref a88), .val (.ref r123), .unset] [(.int (3 : Int32))]))
    refine own_Goes.st ?_ (fun _ k => XS.iload X123.here hx rfl (hb hby at_120) rfl k)
    show own_Goes p.tables e below P (T123.setTop (mkF m 122 #[.val (.int p0), .val (.int p1), .val (.int p2), .val (.int p3), .val (.int p4), .val (.int p5), .val (.int (3 : Int32)), .val (.int ff), .val (.ref a88), .val (.ref r123), .unset] [(.int (3 : Int32)), (.int (3 : Int32))]))
    refine own_Goes.st ?_ (fun _ k => XS.icmpYes X123.here hx rfl (pc0 := 122) (pc' := 127) rfl (hb hby at_122) rfl (teq (by decide : (3 : Int32) = (3 : Int32))).1 (by decide) (by decide) k)
    show own_Goes p.tables e below P (T123.setTop (mkF m 127 #[.val (.int p0), .val (.int p1), .val (.int p2), .val (.int p3), .val (.int p4), .val (.int p5), .val (.int (3 : Int32)), .val (.int ff), .val (.ref a88), .val (.ref r123), .unset] []))
    refine own_Goes.st ?_ (fun _ k => XS.iconst X123.here hx rfl (hb hby at_127) k)
    show own_Goes p.tables e below P (T123.setTop (mkF m 128 #[.val (.int p0), .val (.int p1), .val (.int p2), .val (.int p3), .val (.int p4), .val (.int p5), .val (.int (3 : Int32)), .val (.int ff), .val (.ref a88), .val (.ref r123), .unset] [(.int (1 : Int32))]))
    refine own_Goes.st ?_ (fun _ k => XS.istore X123.here hx rfl (hb hby at_128) rfl (l' := #[.val (.int p0), .val (.int p1), .val (.int p2), .val (.int p3), .val (.int p4), .val (.int p5), .val (.int (3 : Int32)), .val (.int ff), .val (.ref a88), .val (.ref r123), .val (.int (1 : Int32))]) rfl k)
    show own_Goes p.tables e below P (T123.setTop (mkF m 130 #[.val (.int p0), .val (.int p1), .val (.int p2), .val (.int p3), .val (.int p4), .val (.int p5), .val (.int (3 : Int32)), .val (.int ff), .val (.ref a88), .val (.ref r123), .val (.int (1 : Int32))] []))
    refine own_Goes.st ?_ (fun _ k => XS.iload X123.here hx rfl (hb hby at_130) rfl k)
    show own_Goes p.tables e below P (T123.setTop (mkF m 132 #[.val (.int p0), .val (.int p1), .val (.int p2), .val (.int p3), .val (.int p4), .val (.int p5), .val (.int (3 : Int32)), .val (.int ff), .val (.ref a88), .val (.ref r123), .val (.int (1 : Int32))] [(.int (3 : Int32))]))
    refine own_Goes.st ?_ (fun _ k => XS.ifNo X123.here hx rfl (hb hby at_132) rfl ((if0 _ _).trans (tlt (by decide : (0 : Int32) < (3 : Int32))).2.2.2) k)
    show own_Goes p.tables e below P (T123.setTop (mkF m 135 #[.val (.int p0), .val (.int p1), .val (.int p2), .val (.int p3), .val (.int p4), .val (.int p5), .val (.int (3 : Int32)), .val (.int ff), .val (.ref a88), .val (.ref r123), .val (.int (1 : Int32))] []))
    refine own_Goes.st ?_ (fun _ k => XS.iload X123.here hx rfl (hb hby at_135) rfl k)
    show own_Goes p.tables e below P (T123.setTop (mkF m 137 #[.val (.int p0), .val (.int p1), .val (.int p2), .val (.int p3), .val (.int p4), .val (.int p5), .val (.int (3 : Int32)), .val (.int ff), .val (.ref a88), .val (.ref r123), .val (.int (1 : Int32))] [(.int (1 : Int32))]))
    refine own_Goes.st ?_ (fun _ k => XS.ifNo X123.here hx rfl (hb hby at_137) rfl ((if0 _ _).trans (feq (by decide : ¬ ((1 : Int32) = (0 : Int32)))).1) k)
    show own_Goes p.tables e below P (T123.setTop (mkF m 140 #[.val (.int p0), .val (.int p1), .val (.int p2), .val (.int p3), .val (.int p4), .val (.int p5), .val (.int (3 : Int32)), .val (.int ff), .val (.ref a88), .val (.ref r123), .val (.int (1 : Int32))] []))
    refine own_Goes.st ?_ (fun _ k => XS.aload X123.here hx rfl (hb hby at_140) rfl rfl k)
    show own_Goes p.tables e below P (T123.setTop (mkF m 142 #[.val (.int p0), .val (.int p1), .val (.int p2), .val (.int p3), .val (.int p4), .val (.int p5), .val (.int (3 : Int32)), .val (.int ff), .val (.ref a88), .val (.ref r123), .val (.int (1 : Int32))] [(.ref r123)]))
    refine own_Goes.st ?_ (fun _ k => XS.iconst X123.here hx rfl (hb hby at_142) k)
    show own_Goes p.tables e below P (T123.setTop (mkF m 143 #[.val (.int p0), .val (.int p1), .val (.int p2), .val (.int p3), .val (.int p4), .val (.int p5), .val (.int (3 : Int32)), .val (.int ff), .val (.ref a88), .val (.ref r123), .val (.int (1 : Int32))] [(.int (0 : Int32)), (.ref r123)]))
    have hin130 : ¬ ((0 : Int32) < 0 ∨ cl129.slots.size ≤ ((0 : Int32)).toNatClampNeg) := inb_of S129 ⟨by decide, by decide⟩
    refine own_Goes.st ?_ (X123.iaload hx (j := (0 : Int32)) (v := (.int p1)) Ar129.1 (State.isArrayOf_alike hZ.alike Ar129.2.1) Ar129.2.2 hin130 (Has.at Hs129 hin130 rfl) (g := (mkF m 143 #[.val (.int p0), .val (.int p1), .val (.int p2), .val (.int p3), .val (.int p4), .val (.int p5), .val (.int (3 : Int32)), .val (.int ff), .val (.ref a88), .val (.ref r123), .val (.int (1 : Int32))] [(.int (0 : Int32)), (.ref r123)])) rfl rfl (hb hby at_143))
    show own_Goes p.tables e below P (T123.setTop (mkF m 144 #[.val (.int p0), .val (.int p1), .val (.int p2), .val (.int p3), .val (.int p4), .val (.int p5), .val (.int (3 : Int32)), .val (.int ff), .val (.ref a88), .val (.ref r123), .val (.int (1 : Int32))] [(.int p1)]))
    refine own_Goes.st ?_ (fun _ k => XS.iloadN X123.here hx rfl (hb hby at_144) rfl k)
    show own_Goes p.tables e below P (T123.setTop (mkF m 145 #[.val (.int p0), .val (.int p1), .val (.int p2), .val (.int p3), .val (.int p4), .val (.int p5), .val (.int (3 : Int32)), .val (.int ff), .val (.ref a88), .val (.ref r123), .val (.int (1 : Int32))] [(.int p1), (.int p1)]))
    refine own_Goes.st ?_ (fun _ k => XS.icmpNo X123.here hx rfl (hb hby at_145) rfl (teq (rfl : p1 = p1)).2 k)
    show own_Goes p.tables e below P (T123.setTop (mkF m 148 #[.val (.int p0), .val (.int p1), .val (.int p2), .val (.int p3), .val (.int p4), .val (.int p5), .val (.int (3 : Int32)), .val (.int ff), .val (.ref a88), .val (.ref r123), .val (.int (1 : Int32))] []))
    refine own_Goes.st ?_ (fun _ k => XS.iconst X123.here hx rfl (hb hby at_148) k)
    show own_Goes p.tables e below P (T123.setTop (mkF m 149 #[.val (.int p0), .val (.int p1), .val (.int p2), .val (.int p3), .val (.int p4), .val (.int p5), .val (.int (3 : Int32)), .val (.int ff), .val (.ref a88), .val (.ref r123), .val (.int (1 : Int32))] [(.int (1 : Int32))]))
    refine own_Goes.st ?_ (fun _ k => XS.goto X123.here hx rfl (pc0 := 149) (pc' := 153) rfl (hb hby at_149) (by decide) (by decide) k)
    show own_Goes p.tables e below P (T123.setTop (mkF m 153 #[.val (.int p0), .val (.int p1), .val (.int p2), .val (.int p3), .val (.int p4), .val (.int p5), .val (.int (3 : Int32)), .val (.int ff), .val (.ref a88), .val (.ref r123), .val (.int (1 : Int32))] [(.int (1 : Int32))]))
    refine own_Goes.st ?_ (fun _ k => XS.istore X123.here hx rfl (hb hby at_153) rfl (l' := #[.val (.int p0), .val (.int p1), .val (.int p2), .val (.int p3), .val (.int p4), .val (.int p5), .val (.int (3 : Int32)), .val (.int ff), .val (.ref a88), .val (.ref r123), .val (.int (1 : Int32))]) rfl k)
    show own_Goes p.tables e below P (T123.setTop (mkF m 155 #[.val (.int p0), .val (.int p1), .val (.int p2), .val (.int p3), .val (.int p4), .val (.int p5), .val (.int (3 : Int32)), .val (.int ff), .val (.ref a88), .val (.ref r123), .val (.int (1 : Int32))] []))
    refine own_Goes.st ?_ (fun _ k => XS.iload X123.here hx rfl (hb hby at_155) rfl k)
    show own_Goes p.tables e below P (T123.setTop (mkF m 157 #[.val (.int p0), .val (.int p1), .val (.int p2), .val (.int p3), .val (.int p4), .val (.int p5), .val (.int (3 : Int32)), .val (.int ff), .val (.ref a88), .val (.ref r123), .val (.int (1 : Int32))] [(.int (3 : Int32))]))
    refine own_Goes.st ?_ (fun _ k => XS.iconst X123.here hx rfl (hb hby at_157) k)
    show own_Goes p.tables e below P (T123.setTop (mkF m 158 #[.val (.int p0), .val (.int p1), .val (.int p2), .val (.int p3), .val (.int p4), .val (.int p5), .val (.int (3 : Int32)), .val (.int ff), .val (.ref a88), .val (.ref r123), .val (.int (1 : Int32))] [(.int (1 : Int32)), (.int (3 : Int32))]))
    refine own_Goes.st ?_ (fun _ k => XS.icmpNo X123.here hx rfl (hb hby at_158) rfl (tlt (by decide : (1 : Int32) < (3 : Int32))).2.2.2 k)
    show own_Goes p.tables e below P (T123.setTop (mkF m 161 #[.val (.int p0), .val (.int p1), .val (.int p2), .val (.int p3), .val (.int p4), .val (.int p5), .val (.int (3 : Int32)), .val (.int ff), .val (.ref a88), .val (.ref r123), .val (.int (1 : Int32))] []))
    refine own_Goes.st ?_ (fun _ k => XS.iload X123.here hx rfl (hb hby at_161) rfl k)
    show own_Goes p.tables e below P (T123.setTop (mkF m 163 #[.val (.int p0), .val (.int p1), .val (.int p2), .val (.int p3), .val (.int p4), .val (.int p5), .val (.int (3 : Int32)), .val (.int ff), .val (.ref a88), .val (.ref r123), .val (.int (1 : Int32))] [(.int (1 : Int32))]))
    refine own_Goes.st ?_ (fun _ k => XS.ifNo X123.here hx rfl (hb hby at_163) rfl ((if0 _ _).trans (feq (by decide : ¬ ((1 : Int32) = (0 : Int32)))).1) k)
    show own_Goes p.tables e below P (T123.setTop (mkF m 166 #[.val (.int p0), .val (.int p1), .val (.int p2), .val (.int p3), .val (.int p4), .val (.int p5), .val (.int (3 : Int32)), .val (.int ff), .val (.ref a88), .val (.ref r123), .val (.int (1 : Int32))] []))
    refine own_Goes.st ?_ (fun _ k => XS.aload X123.here hx rfl (hb hby at_166) rfl rfl k)
    show own_Goes p.tables e below P (T123.setTop (mkF m 168 #[.val (.int p0), .val (.int p1), .val (.int p2), .val (.int p3), .val (.int p4), .val (.int p5), .val (.int (3 : Int32)), .val (.int ff), .val (.ref a88), .val (.ref r123), .val (.int (1 : Int32))] [(.ref r123)]))
    refine own_Goes.st ?_ (fun _ k => XS.iconst X123.here hx rfl (hb hby at_168) k)
    show own_Goes p.tables e below P (T123.setTop (mkF m 169 #[.val (.int p0), .val (.int p1), .val (.int p2), .val (.int p3), .val (.int p4), .val (.int p5), .val (.int (3 : Int32)), .val (.int ff), .val (.ref a88), .val (.ref r123), .val (.int (1 : Int32))] [(.int (1 : Int32)), (.ref r123)]))
    have hin131 : ¬ ((1 : Int32) < 0 ∨ cl129.slots.size ≤ ((1 : Int32)).toNatClampNeg) := inb_of S129 ⟨by decide, by decide⟩
    refine own_Goes.st ?_ (X123.iaload hx (j := (1 : Int32)) (v := (.int p2)) Ar129.1 (State.isArrayOf_alike hZ.alike Ar129.2.1) Ar129.2.2 hin131 (Has.at Hs129 hin131 rfl) (g := (mkF m 169 #[.val (.int p0), .val (.int p1), .val (.int p2), .val (.int p3), .val (.int p4), .val (.int p5), .val (.int (3 : Int32)), .val (.int ff), .val (.ref a88), .val (.ref r123), .val (.int (1 : Int32))] [(.int (1 : Int32)), (.ref r123)])) rfl rfl (hb hby at_169))
    show own_Goes p.tables e below P (T123.setTop (mkF m 170 #[.val (.int p0), .val (.int p1), .val (.int p2), .val (.int p3), .val (.int p4), .val (.int p5), .val (.int (3 : Int32)), .val (.int ff), .val (.ref a88), .val (.ref r123), .val (.int (1 : Int32))] [(.int p2)]))
    refine own_Goes.st ?_ (fun _ k => XS.iloadN X123.here hx rfl (hb hby at_170) rfl k)
    show own_Goes p.tables e below P (T123.setTop (mkF m 171 #[.val (.int p0), .val (.int p1), .val (.int p2), .val (.int p3), .val (.int p4), .val (.int p5), .val (.int (3 : Int32)), .val (.int ff), .val (.ref a88), .val (.ref r123), .val (.int (1 : Int32))] [(.int p2), (.int p2)]))
    refine own_Goes.st ?_ (fun _ k => XS.icmpNo X123.here hx rfl (hb hby at_171) rfl (teq (rfl : p2 = p2)).2 k)
    show own_Goes p.tables e below P (T123.setTop (mkF m 174 #[.val (.int p0), .val (.int p1), .val (.int p2), .val (.int p3), .val (.int p4), .val (.int p5), .val (.int (3 : Int32)), .val (.int ff), .val (.ref a88), .val (.ref r123), .val (.int (1 : Int32))] []))
    refine own_Goes.st ?_ (fun _ k => XS.iconst X123.here hx rfl (hb hby at_174) k)
    show own_Goes p.tables e below P (T123.setTop (mkF m 175 #[.val (.int p0), .val (.int p1), .val (.int p2), .val (.int p3), .val (.int p4), .val (.int p5), .val (.int (3 : Int32)), .val (.int ff), .val (.ref a88), .val (.ref r123), .val (.int (1 : Int32))] [(.int (1 : Int32))]))
    refine own_Goes.st ?_ (fun _ k => XS.goto X123.here hx rfl (pc0 := 175) (pc' := 179) rfl (hb hby at_175) (by decide) (by decide) k)
    show own_Goes p.tables e below P (T123.setTop (mkF m 179 #[.val (.int p0), .val (.int p1), .val (.int p2), .val (.int p3), .val (.int p4), .val (.int p5), .val (.int (3 : Int32)), .val (.int ff), .val (.ref a88), .val (.ref r123), .val (.int (1 : Int32))] [(.int (1 : Int32))]))
    refine own_Goes.st ?_ (fun _ k => XS.istore X123.here hx rfl (hb hby at_179) rfl (l' := #[.val (.int p0), .val (.int p1), .val (.int p2), .val (.int p3), .val (.int p4), .val (.int p5), .val (.int (3 : Int32)), .val (.int ff), .val (.ref a88), .val (.ref r123), .val (.int (1 : Int32))]) rfl k)
    show own_Goes p.tables e below P (T123.setTop (mkF m 181 #[.val (.int p0), .val (.int p1), .val (.int p2), .val (.int p3), .val (.int p4), .val (.int p5), .val (.int (3 : Int32)), .val (.int ff), .val (.ref a88), .val (.ref r123), .val (.int (1 : Int32))] []))
    refine own_Goes.st ?_ (fun _ k => XS.iload X123.here hx rfl (hb hby at_181) rfl k)
    show own_Goes p.tables e below P (T123.setTop (mkF m 183 #[.val (.int p0), .val (.int p1), .val (.int p2), .val (.int p3), .val (.int p4), .val (.int p5), .val (.int (3 : Int32)), .val (.int ff), .val (.ref a88), .val (.ref r123), .val (.int (1 : Int32))] [(.int (3 : Int32))]))
    refine own_Goes.st ?_ (fun _ k => XS.iconst X123.here hx rfl (hb hby at_183) k)
    show own_Goes p.tables e below P (T123.setTop (mkF m 184 #[.val (.int p0), .val (.int p1), .val (.int p2), .val (.int p3), .val (.int p4), .val (.int p5), .val (.int (3 : Int32)), .val (.int ff), .val (.ref a88), .val (.ref r123), .val (.int (1 : Int32))] [(.int (2 : Int32)), (.int (3 : Int32))]))
    refine own_Goes.st ?_ (fun _ k => XS.icmpNo X123.here hx rfl (hb hby at_184) rfl (tlt (by decide : (2 : Int32) < (3 : Int32))).2.2.2 k)
    show own_Goes p.tables e below P (T123.setTop (mkF m 187 #[.val (.int p0), .val (.int p1), .val (.int p2), .val (.int p3), .val (.int p4), .val (.int p5), .val (.int (3 : Int32)), .val (.int ff), .val (.ref a88), .val (.ref r123), .val (.int (1 : Int32))] []))
    refine own_Goes.st ?_ (fun _ k => XS.iload X123.here hx rfl (hb hby at_187) rfl k)
    show own_Goes p.tables e below P (T123.setTop (mkF m 189 #[.val (.int p0), .val (.int p1), .val (.int p2), .val (.int p3), .val (.int p4), .val (.int p5), .val (.int (3 : Int32)), .val (.int ff), .val (.ref a88), .val (.ref r123), .val (.int (1 : Int32))] [(.int (1 : Int32))]))
    refine own_Goes.st ?_ (fun _ k => XS.ifNo X123.here hx rfl (hb hby at_189) rfl ((if0 _ _).trans (feq (by decide : ¬ ((1 : Int32) = (0 : Int32)))).1) k)
    show own_Goes p.tables e below P (T123.setTop (mkF m 192 #[.val (.int p0), .val (.int p1), .val (.int p2), .val (.int p3), .val (.int p4), .val (.int p5), .val (.int (3 : Int32)), .val (.int ff), .val (.ref a88), .val (.ref r123), .val (.int (1 : Int32))] []))
    refine own_Goes.st ?_ (fun _ k => XS.aload X123.here hx rfl (hb hby at_192) rfl rfl k)
    show own_Goes p.tables e below P (T123.setTop (mkF m 194 #[.val (.int p0), .val (.int p1), .val (.int p2), .val (.int p3), .val (.int p4), .val (.int p5), .val (.int (3 : Int32)), .val (.int ff), .val (.ref a88), .val (.ref r123), .val (.int (1 : Int32))] [(.ref r123)]))
    refine own_Goes.st ?_ (fun _ k => XS.iconst X123.here hx rfl (hb hby at_194) k)
    show own_Goes p.tables e below P (T123.setTop (mkF m 195 #[.val (.int p0), .val (.int p1), .val (.int p2), .val (.int p3), .val (.int p4), .val (.int p5), .val (.int (3 : Int32)), .val (.int ff), .val (.ref a88), .val (.ref r123), .val (.int (1 : Int32))] [(.int (2 : Int32)), (.ref r123)]))
    have hin132 : ¬ ((2 : Int32) < 0 ∨ cl129.slots.size ≤ ((2 : Int32)).toNatClampNeg) := inb_of S129 ⟨by decide, by decide⟩
    refine own_Goes.st ?_ (X123.iaload hx (j := (2 : Int32)) (v := (.int p3)) Ar129.1 (State.isArrayOf_alike hZ.alike Ar129.2.1) Ar129.2.2 hin132 (Has.at Hs129 hin132 rfl) (g := (mkF m 195 #[.val (.int p0), .val (.int p1), .val (.int p2), .val (.int p3), .val (.int p4), .val (.int p5), .val (.int (3 : Int32)), .val (.int ff), .val (.ref a88), .val (.ref r123), .val (.int (1 : Int32))] [(.int (2 : Int32)), (.ref r123)])) rfl rfl (hb hby at_195))
    show own_Goes p.tables e below P (T123.setTop (mkF m 196 #[.val (.int p0), .val (.int p1), .val (.int p2), .val (.int p3), .val (.int p4), .val (.int p5), .val (.int (3 : Int32)), .val (.int ff), .val (.ref a88), .val (.ref r123), .val (.int (1 : Int32))] [(.int p3)]))
    refine own_Goes.st ?_ (fun _ k => XS.iloadN X123.here hx rfl (hb hby at_196) rfl k)
    show own_Goes p.tables e below P (T123.setTop (mkF m 197 #[.val (.int p0), .val (.int p1), .val (.int p2), .val (.int p3), .val (.int p4), .val (.int p5), .val (.int (3 : Int32)), .val (.int ff), .val (.ref a88), .val (.ref r123), .val (.int (1 : Int32))] [(.int p3), (.int p3)]))
    refine own_Goes.st ?_ (fun _ k => XS.icmpNo X123.here hx rfl (hb hby at_197) rfl (teq (rfl : p3 = p3)).2 k)
    show own_Goes p.tables e below P (T123.setTop (mkF m 200 #[.val (.int p0), .val (.int p1), .val (.int p2), .val (.int p3), .val (.int p4), .val (.int p5), .val (.int (3 : Int32)), .val (.int ff), .val (.ref a88), .val (.ref r123), .val (.int (1 : Int32))] []))
    refine own_Goes.st ?_ (fun _ k => XS.iconst X123.here hx rfl (hb hby at_200) k)
    show own_Goes p.tables e below P (T123.setTop (mkF m 201 #[.val (.int p0), .val (.int p1), .val (.int p2), .val (.int p3), .val (.int p4), .val (.int p5), .val (.int (3 : Int32)), .val (.int ff), .val (.ref a88), .val (.ref r123), .val (.int (1 : Int32))] [(.int (1 : Int32))]))
    refine own_Goes.st ?_ (fun _ k => XS.goto X123.here hx rfl (pc0 := 201) (pc' := 205) rfl (hb hby at_201) (by decide) (by decide) k)
    show own_Goes p.tables e below P (T123.setTop (mkF m 205 #[.val (.int p0), .val (.int p1), .val (.int p2), .val (.int p3), .val (.int p4), .val (.int p5), .val (.int (3 : Int32)), .val (.int ff), .val (.ref a88), .val (.ref r123), .val (.int (1 : Int32))] [(.int (1 : Int32))]))
    refine own_Goes.st ?_ (fun _ k => XS.istore X123.here hx rfl (hb hby at_205) rfl (l' := #[.val (.int p0), .val (.int p1), .val (.int p2), .val (.int p3), .val (.int p4), .val (.int p5), .val (.int (3 : Int32)), .val (.int ff), .val (.ref a88), .val (.ref r123), .val (.int (1 : Int32))]) rfl k)
    show own_Goes p.tables e below P (T123.setTop (mkF m 207 #[.val (.int p0), .val (.int p1), .val (.int p2), .val (.int p3), .val (.int p4), .val (.int p5), .val (.int (3 : Int32)), .val (.int ff), .val (.ref a88), .val (.ref r123), .val (.int (1 : Int32))] []))
    refine own_Goes.st ?_ (fun _ k => XS.iload X123.here hx rfl (hb hby at_207) rfl k)
    show own_Goes p.tables e below P (T123.setTop (mkF m 209 #[.val (.int p0), .val (.int p1), .val (.int p2), .val (.int p3), .val (.int p4), .val (.int p5), .val (.int (3 : Int32)), .val (.int ff), .val (.ref a88), .val (.ref r123), .val (.int (1 : Int32))] [(.int (3 : Int32))]))
    refine own_Goes.st ?_ (fun _ k => XS.iconst X123.here hx rfl (hb hby at_209) k)
    show own_Goes p.tables e below P (T123.setTop (mkF m 210 #[.val (.int p0), .val (.int p1), .val (.int p2), .val (.int p3), .val (.int p4), .val (.int p5), .val (.int (3 : Int32)), .val (.int ff), .val (.ref a88), .val (.ref r123), .val (.int (1 : Int32))] [(.int (3 : Int32)), (.int (3 : Int32))]))
    refine own_Goes.st ?_ (fun _ k => XS.icmpYes X123.here hx rfl (pc0 := 210) (pc' := 234) rfl (hb hby at_210) rfl (flt (by decide : ¬ ((3 : Int32) < (3 : Int32)))).2.2.2 (by decide) (by decide) k)
    show own_Goes p.tables e below P (T123.setTop (mkF m 234 #[.val (.int p0), .val (.int p1), .val (.int p2), .val (.int p3), .val (.int p4), .val (.int p5), .val (.int (3 : Int32)), .val (.int ff), .val (.ref a88), .val (.ref r123), .val (.int (1 : Int32))] []))
    refine own_Goes.st ?_ (fun _ k => XS.iload X123.here hx rfl (hb hby at_234) rfl k)
    show own_Goes p.tables e below P (T123.setTop (mkF m 236 #[.val (.int p0), .val (.int p1), .val (.int p2), .val (.int p3), .val (.int p4), .val (.int p5), .val (.int (3 : Int32)), .val (.int ff), .val (.ref a88), .val (.ref r123), .val (.int (1 : Int32))] [(.int (3 : Int32))]))
    refine own_Goes.st ?_ (fun _ k => XS.iconst X123.here hx rfl (hb hby at_236) k)
    show own_Goes p.tables e below P (T123.setTop (mkF m 237 #[.val (.int p0), .val (.int p1), .val (.int p2), .val (.int p3), .val (.int p4), .val (.int p5), .val (.int (3 : Int32)), .val (.int ff), .val (.ref a88), .val (.ref r123), .val (.int (1 : Int32))] [(.int (4 : Int32)), (.int (3 : Int32))]))
    refine own_Goes.st ?_ (fun _ k => XS.icmpYes X123.here hx rfl (pc0 := 237) (pc' := 261) rfl (hb hby at_237) rfl (flt (by decide : ¬ ((4 : Int32) < (3 : Int32)))).2.2.2 (by decide) (by decide) k)
    show own_Goes p.tables e below P (T123.setTop (mkF m 261 #[.val (.int p0), .val (.int p1), .val (.int p2), .val (.int p3), .val (.int p4), .val (.int p5), .val (.int (3 : Int32)), .val (.int ff), .val (.ref a88), .val (.ref r123), .val (.int (1 : Int32))] []))
    refine own_Goes.st ?_ (fun _ k => XS.iload X123.here hx rfl (hb hby at_261) rfl k)
    show own_Goes p.tables e below P (T123.setTop (mkF m 263 #[.val (.int p0), .val (.int p1), .val (.int p2), .val (.int p3), .val (.int p4), .val (.int p5), .val (.int (3 : Int32)), .val (.int ff), .val (.ref a88), .val (.ref r123), .val (.int (1 : Int32))] [(.int (3 : Int32))]))
    refine own_Goes.st ?_ (fun _ k => XS.iconst X123.here hx rfl (hb hby at_263) k)
    show own_Goes p.tables e below P (T123.setTop (mkF m 264 #[.val (.int p0), .val (.int p1), .val (.int p2), .val (.int p3), .val (.int p4), .val (.int p5), .val (.int (3 : Int32)), .val (.int ff), .val (.ref a88), .val (.ref r123), .val (.int (1 : Int32))] [(.int (5 : Int32)), (.int (3 : Int32))]))
    refine own_Goes.st ?_ (fun _ k => XS.icmpYes X123.here hx rfl (pc0 := 264) (pc' := 288) rfl (hb hby at_264) rfl (flt (by decide : ¬ ((5 : Int32) < (3 : Int32)))).2.2.2 (by decide) (by decide) k)
    show own_Goes p.tables e below P (T123.setTop (mkF m 288 #[.val (.int p0), .val (.int p1), .val (.int p2), .val (.int p3), .val (.int p4), .val (.int p5), .val (.int (3 : Int32)), .val (.int ff), .val (.ref a88), .val (.ref r123), .val (.int (1 : Int32))] []))
    refine own_Goes.st ?_ (fun _ k => XS.iload X123.here hx rfl (hb hby at_288) rfl k)
    show own_Goes p.tables e below P (T123.setTop (mkF m 290 #[.val (.int p0), .val (.int p1), .val (.int p2), .val (.int p3), .val (.int p4), .val (.int p5), .val (.int (3 : Int32)), .val (.int ff), .val (.ref a88), .val (.ref r123), .val (.int (1 : Int32))] [(.int (1 : Int32))]))
    obtain ⟨fs, hr, hrun, hended, hW, hsame⟩ := X123.leave (v := some (.int (1 : Int32))) (fun h => by rw [Bd.returns] at h; cases h)
    exact own_Goes.fin _ _ (retOut X123 hx (t := .boolean) Bd.returns rfl (Or.inl ⟨rfl, Or.inr (Or.inl rfl), _, rfl⟩) (hb hby at_290) hr) (hPP _ _ ⟨hrun, hended, _, _, rfl, (by show Q_law n0 _ _; exact ⟨rfl, N123⟩), ⟨_, rfl⟩, hW, hsame.mono (by decide) (by decide)⟩)
  · skip
    show own_Goes p.tables e below P (s₁.setTop (mkF m 15 #[.val (.int p0), .val (.int p1), .val (.int p2), .val (.int p3), .val (.int p4), .val (.int p5), .val (.int (4 : Int32)), .val (.int ff), .unset, .unset, .unset] []))
    obtain ⟨T133, h133, X133, e133, E133, A133, D133, -, st133⟩ := newO X0 hx hZ hown (hw _ (List.mem_of_getElem? (i := 2) rfl)) (hw _ (List.mem_of_getElem? (i := 3) rfl)) (hw _ (List.mem_of_getElem? (i := 4) rfl)) e0 (g := (mkF m 15 #[.val (.int p0), .val (.int p1), .val (.int p2), .val (.int p3), .val (.int p4), .val (.int p5), .val (.int (4 : Int32)), .val (.int ff), .unset, .unset, .unset] [])) rfl (hb hby at_15) (by decide) (by decide)
    obtain ⟨a133, g133⟩ : ∃ z, z = h0.size := ⟨_, rfl⟩
    rw [← g133] at A133 D133 st133
    have ge_a133 : n0 ≤ a133 := Nat.le_trans Z0 (Nat.le_of_eq g133.symm)
    refine own_Goes.st ?_ st133
    have Z134 : n0 ≤ h133.size := Nat.le_trans Z0 E133.1
    have F135 : Fld Z h133 a133 "com/example/usnea/usnea/datalog/IntList" "values" "[I" .null := D133 (Or.inl (hw _ (List.mem_of_getElem? (i := 13) rfl))) (ty := (.array .int)) (by decide)
    have F136 : Fld Z h133 a133 "com/example/usnea/usnea/datalog/IntList" "size" "I" (.int (0 : Int32)) := D133 (Or.inl (hw _ (List.mem_of_getElem? (i := 20) rfl))) (ty := .int) (by decide)
    show own_Goes p.tables e below P (T133.setTop (mkF m 18 #[.val (.int p0), .val (.int p1), .val (.int p2), .val (.int p3), .val (.int p4), .val (.int p5), .val (.int (4 : Int32)), .val (.int ff), .unset, .unset, .unset] [(.ref a133)]))
    refine own_Goes.st ?_ (fun _ k => XS.dup X133.here hx rfl (hb hby at_18) rfl rfl k)
    show own_Goes p.tables e below P (T133.setTop (mkF m 19 #[.val (.int p0), .val (.int p1), .val (.int p2), .val (.int p3), .val (.int p4), .val (.int p5), .val (.int (4 : Int32)), .val (.int ff), .unset, .unset, .unset] [(.ref a133), (.ref a133)]))
    obtain ⟨_, _, ⟨T137, L137, k137, n137⟩, -, X137, ⟨Lc137, hQ137, l137, y137, z137⟩, st137⟩ := X133.specialBack hx (y := (⟨"com/example/usnea/usnea/datalog/IntList", "<init>", "()V"⟩ : MethodName)) rfl hown (mvT hZ (hw _ (List.mem_of_getElem? (i := 5) rfl))) (mvT hZ (hw _ (List.mem_of_getElem? (i := 6) rfl))) (mvT hZ (hw _ (List.mem_of_getElem? (i := 7) rfl))) (by decide) (backOf (W := 1) (rm_ctor l Z a0 hw [] a133 .null h133 n0 Z134 A133 F135 F136 ge_a133) hZ (hw _ (List.mem_of_getElem? (i := 7) rfl)) (hw _ (List.mem_of_getElem? (i := 4) rfl)) (by decide) (by decide)) (g := (mkF m 19 #[.val (.int p0), .val (.int p1), .val (.int p2), .val (.int p3), .val (.int p4), .val (.int p5), .val (.int (4 : Int32)), .val (.int ff), .unset, .unset, .unset] [(.ref a133), (.ref a133)])) rfl (by rw [hml]; rfl) (Steps.refl _) (a := a133) (argsL := []) (rest := [(.ref a133)]) (lenOf own_pd__28__29_V rfl) rfl (by show 2 * 0 + _ ≤ _; exact Nat.le_of_eq rfl) (hb hby at_19) (fun _ _ => ⟨rfl, e133, (by decide : 1 + 1 ≤ _), (by decide : 2 + 4 ≤ _)⟩)
    dsimp only [Pt.U, Pt.locs, Pt.cells, Pt.slots] at X137 l137 y137 z137 st137 hQ137
    rw [l137, y137, z137] at X137
    obtain ⟨b137, k137, rfl, Nq137, K137, f138, f139, f140, f141, f142, f143⟩ := hQ137
    have N137 := Fr.app N0 Nq137
    refine own_Goes.tr st137 ?_
    have ne144 : a133 ≠ b137 := Nat.ne_of_lt (Nat.lt_of_lt_of_le A133.lt f141)
    have ge_b137 : n0 ≤ b137 := Nat.le_trans Z134 f141
    have Z145 : n0 ≤ T137.heap.size := Nat.le_trans Z134 K137.1
    show own_Goes p.tables e below P (T137.setTop (mkF m 22 #[.val (.int p0), .val (.int p1), .val (.int p2), .val (.int p3), .val (.int p4), .val (.int p5), .val (.int (4 : Int32)), .val (.int ff), .unset, .unset, .unset] [(.ref a133)]))
    refine own_Goes.st ?_ (fun _ k => XS.astore X137.here hx rfl (hb hby at_22) rfl rfl (l' := #[.val (.int p0), .val (.int p1), .val (.int p2), .val (.int p3), .val (.int p4), .val (.int p5), .val (.int (4 : Int32)), .val (.int ff), .val (.ref a133), .unset, .unset]) rfl k)
    show own_Goes p.tables e below P (T137.setTop (mkF m 24 #[.val (.int p0), .val (.int p1), .val (.int p2), .val (.int p3), .val (.int p4), .val (.int p5), .val (.int (4 : Int32)), .val (.int ff), .val (.ref a133), .unset, .unset] []))
    refine own_Goes.st ?_ (fun _ k => XS.iload X137.here hx rfl (hb hby at_24) rfl k)
    show own_Goes p.tables e below P (T137.setTop (mkF m 26 #[.val (.int p0), .val (.int p1), .val (.int p2), .val (.int p3), .val (.int p4), .val (.int p5), .val (.int (4 : Int32)), .val (.int ff), .val (.ref a133), .unset, .unset] [(.int (4 : Int32))]))
    refine own_Goes.st ?_ (fun _ k => XS.ifNo X137.here hx rfl (hb hby at_26) rfl ((if0 _ _).trans (tlt (by decide : (0 : Int32) < (4 : Int32))).2.2.2) k)
    show own_Goes p.tables e below P (T137.setTop (mkF m 29 #[.val (.int p0), .val (.int p1), .val (.int p2), .val (.int p3), .val (.int p4), .val (.int p5), .val (.int (4 : Int32)), .val (.int ff), .val (.ref a133), .unset, .unset] []))
    refine own_Goes.st ?_ (fun _ k => XS.aload X137.here hx rfl (hb hby at_29) rfl rfl k)
    show own_Goes p.tables e below P (T137.setTop (mkF m 31 #[.val (.int p0), .val (.int p1), .val (.int p2), .val (.int p3), .val (.int p4), .val (.int p5), .val (.int (4 : Int32)), .val (.int ff), .val (.ref a133), .unset, .unset] [(.ref a133)]))
    refine own_Goes.st ?_ (fun _ k => XS.iloadN X137.here hx rfl (hb hby at_31) rfl k)
    show own_Goes p.tables e below P (T137.setTop (mkF m 32 #[.val (.int p0), .val (.int p1), .val (.int p2), .val (.int p3), .val (.int p4), .val (.int p5), .val (.int (4 : Int32)), .val (.int ff), .val (.ref a133), .unset, .unset] [(.int p1), (.ref a133)]))
    obtain ⟨cq146, kq146, q146a, q146b, q146c⟩ := isOf hZ rfl f138
    obtain ⟨_, _, ⟨T146, L146, k146, n146⟩, -, X146, ⟨Lc146, hQ146, l146, y146, z146⟩, st146⟩ := X137.virtualBack hx (y := (⟨"com/example/usnea/usnea/datalog/IntList", "add", "(I)V"⟩ : MethodName)) (z := (⟨"com/example/usnea/usnea/datalog/IntList", "add", "(I)V"⟩ : MethodName)) hown (mvT hZ (hw _ (List.mem_of_getElem? (i := 38) rfl))) (mvT hZ (hw _ (List.mem_of_getElem? (i := 39) rfl))) (notFace_of_selects (args := #[]) (mvT hZ (hw _ (List.mem_of_getElem? (i := 41) rfl)))) (mvT hZ (hw _ (List.mem_of_getElem? (i := 41) rfl))) (mvT hZ (hw _ (List.mem_of_getElem? (i := 40) rfl))) (by decide) (backOf (W := 0) (rm_add_0 l Z a0 hw [] a133 p1 b137 k137 T137.heap n0 Z145 f138 f139 f140 f142 f143 ge_a133 ge_b137 ne144) hZ (hw _ (List.mem_of_getElem? (i := 42) rfl)) (hw _ (List.mem_of_getElem? (i := 4) rfl)) (by decide) (by decide)) q146a q146c (g := (mkF m 32 #[.val (.int p0), .val (.int p1), .val (.int p2), .val (.int p3), .val (.int p4), .val (.int p5), .val (.int (4 : Int32)), .val (.int ff), .val (.ref a133), .unset, .unset] [(.int p1), (.ref a133)])) rfl (by rw [hml]; rfl) (Steps.refl _) (argsL := [(.int p1)]) (rest := []) (lenOf own_pd__28_I_29_V rfl) rfl (by show 2 * 0 + _ ≤ _; exact Nat.le_of_eq rfl) (hb hby at_32) (fun _ _ => ⟨rfl, rfl, (by decide : 2 + 0 ≤ _), (by decide : 6 + 0 ≤ _)⟩)
    dsimp only [Pt.U, Pt.locs, Pt.cells, Pt.slots] at X146 l146 y146 z146 st146 hQ146
    rw [l146, y146, z146] at X146
    obtain ⟨rfl, Nq146, K146, f147, f148, f149, f150, f151⟩ := hQ146
    have N146 := Fr.app N137 Nq146
    refine own_Goes.tr st146 ?_
    have Z152 : n0 ≤ T146.heap.size := Nat.le_trans Z145 K146.1
    show own_Goes p.tables e below P (T146.setTop (mkF m 35 #[.val (.int p0), .val (.int p1), .val (.int p2), .val (.int p3), .val (.int p4), .val (.int p5), .val (.int (4 : Int32)), .val (.int ff), .val (.ref a133), .unset, .unset] []))
    refine own_Goes.st ?_ (fun _ k => XS.iload X146.here hx rfl (hb hby at_35) rfl k)
    show own_Goes p.tables e below P (T146.setTop (mkF m 37 #[.val (.int p0), .val (.int p1), .val (.int p2), .val (.int p3), .val (.int p4), .val (.int p5), .val (.int (4 : Int32)), .val (.int ff), .val (.ref a133), .unset, .unset] [(.int (4 : Int32))]))
    refine own_Goes.st ?_ (fun _ k => XS.iconst X146.here hx rfl (hb hby at_37) k)
    show own_Goes p.tables e below P (T146.setTop (mkF m 38 #[.val (.int p0), .val (.int p1), .val (.int p2), .val (.int p3), .val (.int p4), .val (.int p5), .val (.int (4 : Int32)), .val (.int ff), .val (.ref a133), .unset, .unset] [(.int (1 : Int32)), (.int (4 : Int32))]))
    refine own_Goes.st ?_ (fun _ k => XS.icmpNo X146.here hx rfl (hb hby at_38) rfl (tlt (by decide : (1 : Int32) < (4 : Int32))).2.2.2 k)
    show own_Goes p.tables e below P (T146.setTop (mkF m 41 #[.val (.int p0), .val (.int p1), .val (.int p2), .val (.int p3), .val (.int p4), .val (.int p5), .val (.int (4 : Int32)), .val (.int ff), .val (.ref a133), .unset, .unset] []))
    refine own_Goes.st ?_ (fun _ k => XS.aload X146.here hx rfl (hb hby at_41) rfl rfl k)
    show own_Goes p.tables e below P (T146.setTop (mkF m 43 #[.val (.int p0), .val (.int p1), .val (.int p2), .val (.int p3), .val (.int p4), .val (.int p5), .val (.int (4 : Int32)), .val (.int ff), .val (.ref a133), .unset, .unset] [(.ref a133)]))
    refine own_Goes.st ?_ (fun _ k => XS.iloadN X146.here hx rfl (hb hby at_43) rfl k)
    show own_Goes p.tables e below P (T146.setTop (mkF m 44 #[.val (.int p0), .val (.int p1), .val (.int p2), .val (.int p3), .val (.int p4), .val (.int p5), .val (.int (4 : Int32)), .val (.int ff), .val (.ref a133), .unset, .unset] [(.int p2), (.ref a133)]))
    obtain ⟨cq153, kq153, q153a, q153b, q153c⟩ := isOf hZ rfl f147
    obtain ⟨_, _, ⟨T153, L153, k153, n153⟩, -, X153, ⟨Lc153, hQ153, l153, y153, z153⟩, st153⟩ := X146.virtualBack hx (y := (⟨"com/example/usnea/usnea/datalog/IntList", "add", "(I)V"⟩ : MethodName)) (z := (⟨"com/example/usnea/usnea/datalog/IntList", "add", "(I)V"⟩ : MethodName)) hown (mvT hZ (hw _ (List.mem_of_getElem? (i := 38) rfl))) (mvT hZ (hw _ (List.mem_of_getElem? (i := 39) rfl))) (notFace_of_selects (args := #[]) (mvT hZ (hw _ (List.mem_of_getElem? (i := 41) rfl)))) (mvT hZ (hw _ (List.mem_of_getElem? (i := 41) rfl))) (mvT hZ (hw _ (List.mem_of_getElem? (i := 40) rfl))) (by decide) (backOf (W := 0) (rm_add_1 l Z a0 hw [] a133 p2 b137 k137 p1 T146.heap n0 Z152 f147 f148 f149 f150 f151 ge_a133 ge_b137 ne144) hZ (hw _ (List.mem_of_getElem? (i := 42) rfl)) (hw _ (List.mem_of_getElem? (i := 4) rfl)) (by decide) (by decide)) q153a q153c (g := (mkF m 44 #[.val (.int p0), .val (.int p1), .val (.int p2), .val (.int p3), .val (.int p4), .val (.int p5), .val (.int (4 : Int32)), .val (.int ff), .val (.ref a133), .unset, .unset] [(.int p2), (.ref a133)])) rfl (by rw [hml]; rfl) (Steps.refl _) (argsL := [(.int p2)]) (rest := []) (lenOf own_pd__28_I_29_V rfl) rfl (by show 2 * 0 + _ ≤ _; exact Nat.le_of_eq rfl) (hb hby at_44) (fun _ _ => ⟨rfl, rfl, (by decide : 2 + 0 ≤ _), (by decide : 6 + 0 ≤ _)⟩)
    dsimp only [Pt.U, Pt.locs, Pt.cells, Pt.slots] at X153 l153 y153 z153 st153 hQ153
    rw [l153, y153, z153] at X153
    obtain ⟨rfl, Nq153, K153, f154, f155, f156, f157, f158⟩ := hQ153
    have N153 := Fr.app N146 Nq153
    refine own_Goes.tr st153 ?_
    have Z159 : n0 ≤ T153.heap.size := Nat.le_trans Z152 K153.1
    show own_Goes p.tables e below P (T153.setTop (mkF m 47 #[.val (.int p0), .val (.int p1), .val (.int p2), .val (.int p3), .val (.int p4), .val (.int p5), .val (.int (4 : Int32)), .val (.int ff), .val (.ref a133), .unset, .unset] []))
    refine own_Goes.st ?_ (fun _ k => XS.iload X153.here hx rfl (hb hby at_47) rfl k)
    show own_Goes p.tables e below P (T153.setTop (mkF m 49 #[.val (.int p0), .val (.int p1), .val (.int p2), .val (.int p3), .val (.int p4), .val (.int p5), .val (.int (4 : Int32)), .val (.int ff), .val (.ref a133), .unset, .unset] [(.int (4 : Int32))]))
    refine own_Goes.st ?_ (fun _ k => XS.iconst X153.here hx rfl (hb hby at_49) k)
    show own_Goes p.tables e below P (T153.setTop (mkF m 50 #[.val (.int p0), .val (.int p1), .val (.int p2), .val (.int p3), .val (.int p4), .val (.int p5), .val (.int (4 : Int32)), .val (.int ff), .val (.ref a133), .unset, .unset] [(.int (2 : Int32)), (.int (4 : Int32))]))
    refine own_Goes.st ?_ (fun _ k => XS.icmpNo X153.here hx rfl (hb hby at_50) rfl (tlt (by decide : (2 : Int32) < (4 : Int32))).2.2.2 k)
    show own_Goes p.tables e below P (T153.setTop (mkF m 53 #[.val (.int p0), .val (.int p1), .val (.int p2), .val (.int p3), .val (.int p4), .val (.int p5), .val (.int (4 : Int32)), .val (.int ff), .val (.ref a133), .unset, .unset] []))
    refine own_Goes.st ?_ (fun _ k => XS.aload X153.here hx rfl (hb hby at_53) rfl rfl k)
    show own_Goes p.tables e below P (T153.setTop (mkF m 55 #[.val (.int p0), .val (.int p1), .val (.int p2), .val (.int p3), .val (.int p4), .val (.int p5), .val (.int (4 : Int32)), .val (.int ff), .val (.ref a133), .unset, .unset] [(.ref a133)]))
    refine own_Goes.st ?_ (fun _ k => XS.iloadN X153.here hx rfl (hb hby at_55) rfl k)
    show own_Goes p.tables e below P (T153.setTop (mkF m 56 #[.val (.int p0), .val (.int p1), .val (.int p2), .val (.int p3), .val (.int p4), .val (.int p5), .val (.int (4 : Int32)), .val (.int ff), .val (.ref a133), .unset, .unset] [(.int p3), (.ref a133)]))
    obtain ⟨cq160, kq160, q160a, q160b, q160c⟩ := isOf hZ rfl f154
    obtain ⟨_, _, ⟨T160, L160, k160, n160⟩, -, X160, ⟨Lc160, hQ160, l160, y160, z160⟩, st160⟩ := X153.virtualBack hx (y := (⟨"com/example/usnea/usnea/datalog/IntList", "add", "(I)V"⟩ : MethodName)) (z := (⟨"com/example/usnea/usnea/datalog/IntList", "add", "(I)V"⟩ : MethodName)) hown (mvT hZ (hw _ (List.mem_of_getElem? (i := 38) rfl))) (mvT hZ (hw _ (List.mem_of_getElem? (i := 39) rfl))) (notFace_of_selects (args := #[]) (mvT hZ (hw _ (List.mem_of_getElem? (i := 41) rfl)))) (mvT hZ (hw _ (List.mem_of_getElem? (i := 41) rfl))) (mvT hZ (hw _ (List.mem_of_getElem? (i := 40) rfl))) (by decide) (backOf (W := 0) (rm_add_2 l Z a0 hw [] a133 p3 b137 k137 p1 p2 T153.heap n0 Z159 f154 f155 f156 f157 f158 ge_a133 ge_b137 ne144) hZ (hw _ (List.mem_of_getElem? (i := 42) rfl)) (hw _ (List.mem_of_getElem? (i := 4) rfl)) (by decide) (by decide)) q160a q160c (g := (mkF m 56 #[.val (.int p0), .val (.int p1), .val (.int p2), .val (.int p3), .val (.int p4), .val (.int p5), .val (.int (4 : Int32)), .val (.int ff), .val (.ref a133), .unset, .unset] [(.int p3), (.ref a133)])) rfl (by rw [hml]; rfl) (Steps.refl _) (argsL := [(.int p3)]) (rest := []) (lenOf own_pd__28_I_29_V rfl) rfl (by show 2 * 0 + _ ≤ _; exact Nat.le_of_eq rfl) (hb hby at_56) (fun _ _ => ⟨rfl, rfl, (by decide : 2 + 0 ≤ _), (by decide : 6 + 0 ≤ _)⟩)
    dsimp only [Pt.U, Pt.locs, Pt.cells, Pt.slots] at X160 l160 y160 z160 st160 hQ160
    rw [l160, y160, z160] at X160
    obtain ⟨rfl, Nq160, K160, f161, f162, f163, f164, f165⟩ := hQ160
    have N160 := Fr.app N153 Nq160
    refine own_Goes.tr st160 ?_
    have Z166 : n0 ≤ T160.heap.size := Nat.le_trans Z159 K160.1
    show own_Goes p.tables e below P (T160.setTop (mkF m 59 #[.val (.int p0), .val (.int p1), .val (.int p2), .val (.int p3), .val (.int p4), .val (.int p5), .val (.int (4 : Int32)), .val (.int ff), .val (.ref a133), .unset, .unset] []))
    refine own_Goes.st ?_ (fun _ k => XS.iload X160.here hx rfl (hb hby at_59) rfl k)
    show own_Goes p.tables e below P (T160.setTop (mkF m 61 #[.val (.int p0), .val (.int p1), .val (.int p2), .val (.int p3), .val (.int p4), .val (.int p5), .val (.int (4 : Int32)), .val (.int ff), .val (.ref a133), .unset, .unset] [(.int (4 : Int32))]))
    refine own_Goes.st ?_ (fun _ k => XS.iconst X160.here hx rfl (hb hby at_61) k)
    show own_Goes p.tables e below P (T160.setTop (mkF m 62 #[.val (.int p0), .val (.int p1), .val (.int p2), .val (.int p3), .val (.int p4), .val (.int p5), .val (.int (4 : Int32)), .val (.int ff), .val (.ref a133), .unset, .unset] [(.int (3 : Int32)), (.int (4 : Int32))]))
    refine own_Goes.st ?_ (fun _ k => XS.icmpNo X160.here hx rfl (hb hby at_62) rfl (tlt (by decide : (3 : Int32) < (4 : Int32))).2.2.2 k)
    show own_Goes p.tables e below P (T160.setTop (mkF m 65 #[.val (.int p0), .val (.int p1), .val (.int p2), .val (.int p3), .val (.int p4), .val (.int p5), .val (.int (4 : Int32)), .val (.int ff), .val (.ref a133), .unset, .unset] []))
    refine own_Goes.st ?_ (fun _ k => XS.aload X160.here hx rfl (hb hby at_65) rfl rfl k)
    show own_Goes p.tables e below P (T160.setTop (mkF m 67 #[.val (.int p0), .val (.int p1), .val (.int p2), .val (.int p3), .val (.int p4), .val (.int p5), .val (.int (4 : Int32)), .val (.int ff), .val (.ref a133), .unset, .unset] [(.ref a133)]))
    refine own_Goes.st ?_ (fun _ k => XS.iload X160.here hx rfl (hb hby at_67) rfl k)
    show own_Goes p.tables e below P (T160.setTop (mkF m 69 #[.val (.int p0), .val (.int p1), .val (.int p2), .val (.int p3), .val (.int p4), .val (.int p5), .val (.int (4 : Int32)), .val (.int ff), .val (.ref a133), .unset, .unset] [(.int p4), (.ref a133)]))
    obtain ⟨cq167, kq167, q167a, q167b, q167c⟩ := isOf hZ rfl f161
    obtain ⟨_, _, ⟨T167, L167, k167, n167⟩, -, X167, ⟨Lc167, hQ167, l167, y167, z167⟩, st167⟩ := X160.virtualBack hx (y := (⟨"com/example/usnea/usnea/datalog/IntList", "add", "(I)V"⟩ : MethodName)) (z := (⟨"com/example/usnea/usnea/datalog/IntList", "add", "(I)V"⟩ : MethodName)) hown (mvT hZ (hw _ (List.mem_of_getElem? (i := 38) rfl))) (mvT hZ (hw _ (List.mem_of_getElem? (i := 39) rfl))) (notFace_of_selects (args := #[]) (mvT hZ (hw _ (List.mem_of_getElem? (i := 41) rfl)))) (mvT hZ (hw _ (List.mem_of_getElem? (i := 41) rfl))) (mvT hZ (hw _ (List.mem_of_getElem? (i := 40) rfl))) (by decide) (backOf (W := 0) (rm_add_3 l Z a0 hw [] a133 p4 b137 k137 p1 p2 p3 T160.heap n0 Z166 f161 f162 f163 f164 f165 ge_a133 ge_b137 ne144) hZ (hw _ (List.mem_of_getElem? (i := 42) rfl)) (hw _ (List.mem_of_getElem? (i := 4) rfl)) (by decide) (by decide)) q167a q167c (g := (mkF m 69 #[.val (.int p0), .val (.int p1), .val (.int p2), .val (.int p3), .val (.int p4), .val (.int p5), .val (.int (4 : Int32)), .val (.int ff), .val (.ref a133), .unset, .unset] [(.int p4), (.ref a133)])) rfl (by rw [hml]; rfl) (Steps.refl _) (argsL := [(.int p4)]) (rest := []) (lenOf own_pd__28_I_29_V rfl) rfl (by show 2 * 0 + _ ≤ _; exact Nat.le_of_eq rfl) (hb hby at_69) (fun _ _ => ⟨rfl, rfl, (by decide : 2 + 0 ≤ _), (by decide : 6 + 0 ≤ _)⟩)
    dsimp only [Pt.U, Pt.locs, Pt.cells, Pt.slots] at X167 l167 y167 z167 st167 hQ167
    rw [l167, y167, z167] at X167
    obtain ⟨rfl, Nq167, K167, f168, f169, f170, f171, f172⟩ := hQ167
    have N167 := Fr.app N160 Nq167
    refine own_Goes.tr st167 ?_
    have Z173 : n0 ≤ T167.heap.size := Nat.le_trans Z166 K167.1
    show own_Goes p.tables e below P (T167.setTop (mkF m 72 #[.val (.int p0), .val (.int p1), .val (.int p2), .val (.int p3), .val (.int p4), .val (.int p5), .val (.int (4 : Int32)), .val (.int ff), .val (.ref a133), .unset, .unset] []))
    refine own_Goes.st ?_ (fun _ k => XS.iload X167.here hx rfl (hb hby at_72) rfl k)
    show own_Goes p.tables e below P (T167.setTop (mkF m 74 #[.val (.int p0), .val (.int p1), .val (.int p2), .val (.int p3), .val (.int p4), .val (.int p5), .val (.int (4 : Int32)), .val (.int ff), .val (.ref a133), .unset, .unset] [(.int (4 : Int32))]))
    refine own_Goes.st ?_ (fun _ k => XS.iconst X167.here hx rfl (hb hby at_74) k)
    show own_Goes p.tables e below P (T167.setTop (mkF m 75 #[.val (.int p0), .val (.int p1), .val (.int p2), .val (.int p3), .val (.int p4), .val (.int p5), .val (.int (4 : Int32)), .val (.int ff), .val (.ref a133), .unset, .unset] [(.int (4 : Int32)), (.int (4 : Int32))]))
    refine own_Goes.st ?_ (fun _ k => XS.icmpYes X167.here hx rfl (pc0 := 75) (pc' := 85) rfl (hb hby at_75) rfl (flt (by decide : ¬ ((4 : Int32) < (4 : Int32)))).2.2.2 (by decide) (by decide) k)
    show own_Goes p.tables e below P (T167.setTop (mkF m 85 #[.val (.int p0), .val (.int p1), .val (.int p2), .val (.int p3), .val (.int p4), .val (.int p5), .val (.int (4 : Int32)), .val (.int ff), .val (.ref a133), .unset, .unset] []))
    refine own_Goes.st ?_ (fun _ k => XS.iload X167.here hx rfl (hb hby at_85) rfl k)
    show own_Goes p.tables e below P (T167.setTop (mkF m 87 #[.val (.int p0), .val (.int p1), .val (.int p2), .val (.int p3), .val (.int p4), .val (.int p5), .val (.int (4 : Int32)), .val (.int ff), .val (.ref a133), .unset, .unset] [(.int (4 : Int32))]))
    refine own_Goes.st ?_ (fun _ k => XS.iconst X167.here hx rfl (hb hby at_87) k)
    show own_Goes p.tables e below P (T167.setTop (mkF m 88 #[.val (.int p0), .val (.int p1), .val (.int p2), .val (.int p3), .val (.int p4), .val (.int p5), .val (.int (4 : Int32)), .val (.int ff), .val (.ref a133), .unset, .unset] [(.int (5 : Int32)), (.int (4 : Int32))]))
    refine own_Goes.st ?_ (fun _ k => XS.icmpYes X167.here hx rfl (pc0 := 88) (pc' := 98) rfl (hb hby at_88) rfl (flt (by decide : ¬ ((5 : Int32) < (4 : Int32)))).2.2.2 (by decide) (by decide) k)
    show own_Goes p.tables e below P (T167.setTop (mkF m 98 #[.val (.int p0), .val (.int p1), .val (.int p2), .val (.int p3), .val (.int p4), .val (.int p5), .val (.int (4 : Int32)), .val (.int ff), .val (.ref a133), .unset, .unset] []))
    refine own_Goes.st ?_ (fun _ k => XS.aload X167.here hx rfl (hb hby at_98) rfl rfl k)
    show own_Goes p.tables e below P (T167.setTop (mkF m 100 #[.val (.int p0), .val (.int p1), .val (.int p2), .val (.int p3), .val (.int p4), .val (.int p5), .val (.int (4 : Int32)), .val (.int ff), .val (.ref a133), .unset, .unset] [(.ref a133)]))
    obtain ⟨cq174, kq174, q174a, q174b, q174c⟩ := isOf hZ rfl f168
    obtain ⟨_, _, ⟨T174, L174, k174, n174⟩, -, X174, ⟨Lc174, hQ174, l174, y174, z174⟩, st174⟩ := X167.virtualBack hx (y := (⟨"com/example/usnea/usnea/datalog/IntList", "size", "()I"⟩ : MethodName)) (z := (⟨"com/example/usnea/usnea/datalog/IntList", "size", "()I"⟩ : MethodName)) hown (mvT hZ (hw _ (List.mem_of_getElem? (i := 14) rfl))) (mvT hZ (hw _ (List.mem_of_getElem? (i := 15) rfl))) (notFace_of_selects (args := #[]) (mvT hZ (hw _ (List.mem_of_getElem? (i := 17) rfl)))) (mvT hZ (hw _ (List.mem_of_getElem? (i := 17) rfl))) (mvT hZ (hw _ (List.mem_of_getElem? (i := 16) rfl))) (by decide) (backOf (W := 0) (rm_size l Z a0 hw [] a133 (4 : Int32) T167.heap n0 Z173 f170) hZ (hw _ (List.mem_of_getElem? (i := 18) rfl)) (hw _ (List.mem_of_getElem? (i := 4) rfl)) (by decide) (by decide)) q174a q174c (g := (mkF m 100 #[.val (.int p0), .val (.int p1), .val (.int p2), .val (.int p3), .val (.int p4), .val (.int p5), .val (.int (4 : Int32)), .val (.int ff), .val (.ref a133), .unset, .unset] [(.ref a133)])) rfl (by rw [hml]; rfl) (Steps.refl _) (argsL := []) (rest := []) (lenOf own_pd__28__29_I rfl) rfl (by show 2 * 0 + _ ≤ _; exact Nat.le_of_eq rfl) (hb hby at_100) (fun _ _ => ⟨rfl, rfl, (by decide : 2 + 0 ≤ _), (by decide : 6 + 0 ≤ _)⟩)
    dsimp only [Pt.U, Pt.locs, Pt.cells, Pt.slots] at X174 l174 y174 z174 st174 hQ174
    rw [l174, y174, z174] at X174
    obtain ⟨rfl, Nq174, e174⟩ := hQ174
    have N174 := Fr.app N167 Nq174
    refine own_Goes.tr st174 ?_
    show own_Goes p.tables e below P (T174.setTop (mkF m 103 #[.val (.int p0), .val (.int p1), .val (.int p2), .val (.int p3), .val (.int p4), .val (.int p5), .val (.int (4 : Int32)), .val (.int ff), .val (.ref a133), .unset, .unset] [(.int (4 : Int32))]))
    refine own_Goes.st ?_ (fun _ k => XS.iload X174.here hx rfl (hb hby at_103) rfl k)
    show own_Goes p.tables e below P (T174.setTop (mkF m 105 #[.val (.int p0), .val (.int p1), .val (.int p2), .val (.int p3), .val (.int p4), .val (.int p5), .val (.int (4 : Int32)), .val (.int ff), .val (.ref a133), .unset, .unset] [(.int (4 : Int32)), (.int (4 : Int32))]))
    refine own_Goes.st ?_ (fun _ k => XS.icmpYes X174.here hx rfl (pc0 := 105) (pc' := 110) rfl (hb hby at_105) rfl (teq (by decide : (4 : Int32) = (4 : Int32))).1 (by decide) (by decide) k)
    show own_Goes p.tables e below P (T174.setTop (mkF m 110 #[.val (.int p0), .val (.int p1), .val (.int p2), .val (.int p3), .val (.int p4), .val (.int p5), .val (.int (4 : Int32)), .val (.int ff), .val (.ref a133), .unset, .unset] []))
    refine own_Goes.st ?_ (fun _ k => XS.aload X174.here hx rfl (hb hby at_110) rfl rfl k)
    show own_Goes p.tables e below P (T174.setTop (mkF m 112 #[.val (.int p0), .val (.int p1), .val (.int p2), .val (.int p3), .val (.int p4), .val (.int p5), .val (.int (4 : Int32)), .val (.int ff), .val (.ref a133), .unset, .unset] [(.ref a133)]))
    obtain ⟨cq175, kq175, q175a, q175b, q175c⟩ := isOf hZ e174 f168
    obtain ⟨_, _, ⟨T175, L175, k175, n175⟩, -, X175, ⟨Lc175, hQ175, l175, y175, z175⟩, st175⟩ := X174.virtualBack hx (y := (⟨"com/example/usnea/usnea/datalog/IntList", "toArray", "()[I"⟩ : MethodName)) (z := (⟨"com/example/usnea/usnea/datalog/IntList", "toArray", "()[I"⟩ : MethodName)) hown (mvT hZ (hw _ (List.mem_of_getElem? (i := 21) rfl))) (mvT hZ (hw _ (List.mem_of_getElem? (i := 22) rfl))) (notFace_of_selects (args := #[]) (mvT hZ (hw _ (List.mem_of_getElem? (i := 24) rfl)))) (mvT hZ (hw _ (List.mem_of_getElem? (i := 24) rfl))) (mvT hZ (hw _ (List.mem_of_getElem? (i := 23) rfl))) (by decide) (backOf (W := 0) (rm_toarr_4 l Z a0 hw [] a133 b137 k137 p1 p2 p3 p4 T167.heap n0 Z173 f169 f170 f171 f172) hZ (hw _ (List.mem_of_getElem? (i := 25) rfl)) (hw _ (List.mem_of_getElem? (i := 4) rfl)) (by decide) (by decide)) q175a q175c (g := (mkF m 112 #[.val (.int p0), .val (.int p1), .val (.int p2), .val (.int p3), .val (.int p4), .val (.int p5), .val (.int (4 : Int32)), .val (.int ff), .val (.ref a133), .unset, .unset] [(.ref a133)])) rfl (by rw [hml]; rfl) (Steps.refl _) (argsL := []) (rest := []) (lenOf own_pd__28__29__5b_I rfl) rfl (by show 2 * 0 + _ ≤ _; exact Nat.le_of_eq rfl) (hb hby at_112) (fun _ _ => ⟨rfl, e174, (by decide : 2 + 1 ≤ _), (by decide : 6 + 4 ≤ _)⟩)
    dsimp only [Pt.U, Pt.locs, Pt.cells, Pt.slots] at X175 l175 y175 z175 st175 hQ175
    rw [l175, y175, z175] at X175
    obtain ⟨r175, q175, rfl, Nq175, K175, f176, f177⟩ := hQ175
    have N175 := Fr.app N174 Nq175
    refine own_Goes.tr st175 ?_
    have ne178 : a133 ≠ r175 := Nat.ne_of_lt (Nat.lt_of_lt_of_le f168.lt f176)
    have ne179 : b137 ≠ r175 := Nat.ne_of_lt (Nat.lt_of_lt_of_le f172.lt f176)
    have ge_r175 : n0 ≤ r175 := Nat.le_trans Z173 f176
    have Z180 : n0 ≤ T175.heap.size := Nat.le_trans Z173 K175.1
    show own_Goes p.tables e below P (T175.setTop (mkF m 115 #[.val (.int p0), .val (.int p1), .val (.int p2), .val (.int p3), .val (.int p4), .val (.int p5), .val (.int (4 : Int32)), .val (.int ff), .val (.ref a133), .unset, .unset] [(.ref r175)]))
    refine own_Goes.st ?_ (fun _ k => XS.astore X175.here hx rfl (hb hby at_115) rfl rfl (l' := #[.val (.int p0), .val (.int p1), .val (.int p2), .val (.int p3), .val (.int p4), .val (.int p5), .val (.int (4 : Int32)), .val (.int ff), .val (.ref a133), .val (.ref r175), .unset]) rfl k)
    show own_Goes p.tables e below P (T175.setTop (mkF m 117 #[.val (.int p0), .val (.int p1), .val (.int p2), .val (.int p3), .val (.int p4), .val (.int p5), .val (.int (4 : Int32)), .val (.int ff), .val (.ref a133), .val (.ref r175), .unset] []))
    refine own_Goes.st ?_ (fun _ k => XS.aload X175.here hx rfl (hb hby at_117) rfl rfl k)
    show own_Goes p.tables e below P (T175.setTop (mkF m 119 #[.val (.int p0), .val (.int p1), .val (.int p2), .val (.int p3), .val (.int p4), .val (.int p5), .val (.int (4 : Int32)), .val (.int ff), .val (.ref a133), .val (.ref r175), .unset] [(.ref r175)]))
    have Vc181 := f177
    obtain ⟨cl181, Ar181, qc181, S181, Nn181, Hs181, Gs181⟩ := Vc181
    refine own_Goes.st ?_ (X175.arraylength hx Ar181.1 (State.isArrayOf_alike hZ.alike Ar181.2.1) (g := (mkF m 119 #[.val (.int p0), .val (.int p1), .val (.int p2), .val (.int p3), .val (.int p4), .val (.int p5), .val (.int (4 : Int32)), .val (.int ff), .val (.ref a133), .val (.ref r175), .unset] [(.ref r175)])) rfl rfl (hb hby at_119))
    rw [len_of S181 Nn181]
    show own_Goes p.tables e below P (T175.setTop (mkF m 120 #[.val (.int p0), .val (.int p1), .val (.int p2), .val (.int p3), .val (.int p4), .val (.int p5), .val (.int (4 : Int32)), .val (.int ff), .val (.ref a133), .val (.ref r175), .unset] [(.int (4 : Int32))]))
    refine own_Goes.st ?_ (fun _ k => XS.iload X175.here hx rfl (hb hby at_120) rfl k)
    show own_Goes p.tables e below P (T175.setTop (mkF m 122 #[.val (.int p0), .val (.int p1), .val (.int p2), .val (.int p3), .val (.int p4), .val (.int p5), .val (.int (4 : Int32)), .val (.int ff), .val (.ref a133), .val (.ref r175), .unset] [(.int (4 : Int32)), (.int (4 : Int32))]))
    refine own_Goes.st ?_ (fun _ k => XS.icmpYes X175.here hx rfl (pc0 := 122) (pc' := 127) rfl (hb hby at_122) rfl (teq (by decide : (4 : Int32) = (4 : Int32))).1 (by decide) (by decide) k)
    show own_Goes p.tables e below P (T175.setTop (mkF m 127 #[.val (.int p0), .val (.int p1), .val (.int p2), .val (.int p3), .val (.int p4), .val (.int p5), .val (.int (4 : Int32)), .val (.int ff), .val (.ref a133), .val (.ref r175), .unset] []))
    refine own_Goes.st ?_ (fun _ k => XS.iconst X175.here hx rfl (hb hby at_127) k)
    show own_Goes p.tables e below P (T175.setTop (mkF m 128 #[.val (.int p0), .val (.int p1), .val (.int p2), .val (.int p3), .val (.int p4), .val (.int p5), .val (.int (4 : Int32)), .val (.int ff), .val (.ref a133), .val (.ref r175), .unset] [(.int (1 : Int32))]))
    refine own_Goes.st ?_ (fun _ k => XS.istore X175.here hx rfl (hb hby at_128) rfl (l' := #[.val (.int p0), .val (.int p1), .val (.int p2), .val (.int p3), .val (.int p4), .val (.int p5), .val (.int (4 : Int32)), .val (.int ff), .val (.ref a133), .val (.ref r175), .val (.int (1 : Int32))]) rfl k)
    show own_Goes p.tables e below P (T175.setTop (mkF m 130 #[.val (.int p0), .val (.int p1), .val (.int p2), .val (.int p3), .val (.int p4), .val (.int p5), .val (.int (4 : Int32)), .val (.int ff), .val (.ref a133), .val (.ref r175), .val (.int (1 : Int32))] []))
    refine own_Goes.st ?_ (fun _ k => XS.iload X175.here hx rfl (hb hby at_130) rfl k)
    show own_Goes p.tables e below P (T175.setTop (mkF m 132 #[.val (.int p0), .val (.int p1), .val (.int p2), .val (.int p3), .val (.int p4), .val (.int p5), .val (.int (4 : Int32)), .val (.int ff), .val (.ref a133), .val (.ref r175), .val (.int (1 : Int32))] [(.int (4 : Int32))]))
    refine own_Goes.st ?_ (fun _ k => XS.ifNo X175.here hx rfl (hb hby at_132) rfl ((if0 _ _).trans (tlt (by decide : (0 : Int32) < (4 : Int32))).2.2.2) k)
    show own_Goes p.tables e below P (T175.setTop (mkF m 135 #[.val (.int p0), .val (.int p1), .val (.int p2), .val (.int p3), .val (.int p4), .val (.int p5), .val (.int (4 : Int32)), .val (.int ff), .val (.ref a133), .val (.ref r175), .val (.int (1 : Int32))] []))
    refine own_Goes.st ?_ (fun _ k => XS.iload X175.here hx rfl (hb hby at_135) rfl k)
    show own_Goes p.tables e below P (T175.setTop (mkF m 137 #[.val (.int p0), .val (.int p1), .val (.int p2), .val (.int p3), .val (.int p4), .val (.int p5), .val (.int (4 : Int32)), .val (.int ff), .val (.ref a133), .val (.ref r175), .val (.int (1 : Int32))] [(.int (1 : Int32))]))
    refine own_Goes.st ?_ (fun _ k => XS.ifNo X175.here hx rfl (hb hby at_137) rfl ((if0 _ _).trans (feq (by decide : ¬ ((1 : Int32) = (0 : Int32)))).1) k)
    show own_Goes p.tables e below P (T175.setTop (mkF m 140 #[.val (.int p0), .val (.int p1), .val (.int p2), .val (.int p3), .val (.int p4), .val (.int p5), .val (.int (4 : Int32)), .val (.int ff), .val (.ref a133), .val (.ref r175), .val (.int (1 : Int32))] []))
    refine own_Goes.st ?_ (fun _ k => XS.aload X175.here hx rfl (hb hby at_140) rfl rfl k)
    show own_Goes p.tables e below P (T175.setTop (mkF m 142 #[.val (.int p0), .val (.int p1), .val (.int p2), .val (.int p3), .val (.int p4), .val (.int p5), .val (.int (4 : Int32)), .val (.int ff), .val (.ref a133), .val (.ref r175), .val (.int (1 : Int32))] [(.ref r175)]))
    refine own_Goes.st ?_ (fun _ k => XS.iconst X175.here hx rfl (hb hby at_142) k)
    show own_Goes p.tables e below P (T175.setTop (mkF m 143 #[.val (.int p0), .val (.int p1), .val (.int p2), .val (.int p3), .val (.int p4), .val (.int p5), .val (.int (4 : Int32)), .val (.int ff), .val (.ref a133), .val (.ref r175), .val (.int (1 : Int32))] [(.int (0 : Int32)), (.ref r175)]))
    have hin182 : ¬ ((0 : Int32) < 0 ∨ cl181.slots.size ≤ ((0 : Int32)).toNatClampNeg) := inb_of S181 ⟨by decide, by decide⟩
    refine own_Goes.st ?_ (X175.iaload hx (j := (0 : Int32)) (v := (.int p1)) Ar181.1 (State.isArrayOf_alike hZ.alike Ar181.2.1) Ar181.2.2 hin182 (Has.at Hs181 hin182 rfl) (g := (mkF m 143 #[.val (.int p0), .val (.int p1), .val (.int p2), .val (.int p3), .val (.int p4), .val (.int p5), .val (.int (4 : Int32)), .val (.int ff), .val (.ref a133), .val (.ref r175), .val (.int (1 : Int32))] [(.int (0 : Int32)), (.ref r175)])) rfl rfl (hb hby at_143))
    show own_Goes p.tables e below P (T175.setTop (mkF m 144 #[.val (.int p0), .val (.int p1), .val (.int p2), .val (.int p3), .val (.int p4), .val (.int p5), .val (.int (4 : Int32)), .val (.int ff), .val (.ref a133), .val (.ref r175), .val (.int (1 : Int32))] [(.int p1)]))
    refine own_Goes.st ?_ (fun _ k => XS.iloadN X175.here hx rfl (hb hby at_144) rfl k)
    show own_Goes p.tables e below P (T175.setTop (mkF m 145 #[.val (.int p0), .val (.int p1), .val (.int p2), .val (.int p3), .val (.int p4), .val (.int p5), .val (.int (4 : Int32)), .val (.int ff), .val (.ref a133), .val (.ref r175), .val (.int (1 : Int32))] [(.int p1), (.int p1)]))
    refine own_Goes.st ?_ (fun _ k => XS.icmpNo X175.here hx rfl (hb hby at_145) rfl (teq (rfl : p1 = p1)).2 k)
    show own_Goes p.tables e below P (T175.setTop (mkF m 148 #[.val (.int p0), .val (.int p1), .val (.int p2), .val (.int p3), .val (.int p4), .val (.int p5), .val (.int (4 : Int32)), .val (.int ff), .val (.ref a133), .val (.ref r175), .val (.int (1 : Int32))] []))
    refine own_Goes.st ?_ (fun _ k => XS.iconst X175.here hx rfl (hb hby at_148) k)
    show own_Goes p.tables e below P (T175.setTop (mkF m 149 #[.val (.int p0), .val (.int p1), .val (.int p2), .val (.int p3), .val (.int p4), .val (.int p5), .val (.int (4 : Int32)), .val (.int ff), .val (.ref a133), .val (.ref r175), .val (.int (1 : Int32))] [(.int (1 : Int32))]))
    refine own_Goes.st ?_ (fun _ k => XS.goto X175.here hx rfl (pc0 := 149) (pc' := 153) rfl (hb hby at_149) (by decide) (by decide) k)
    show own_Goes p.tables e below P (T175.setTop (mkF m 153 #[.val (.int p0), .val (.int p1), .val (.int p2), .val (.int p3), .val (.int p4), .val (.int p5), .val (.int (4 : Int32)), .val (.int ff), .val (.ref a133), .val (.ref r175), .val (.int (1 : Int32))] [(.int (1 : Int32))]))
    refine own_Goes.st ?_ (fun _ k => XS.istore X175.here hx rfl (hb hby at_153) rfl (l' := #[.val (.int p0), .val (.int p1), .val (.int p2), .val (.int p3), .val (.int p4), .val (.int p5), .val (.int (4 : Int32)), .val (.int ff), .val (.ref a133), .val (.ref r175), .val (.int (1 : Int32))]) rfl k)
    show own_Goes p.tables e below P (T175.setTop (mkF m 155 #[.val (.int p0), .val (.int p1), .val (.int p2), .val (.int p3), .val (.int p4), .val (.int p5), .val (.int (4 : Int32)), .val (.int ff), .val (.ref a133), .val (.ref r175), .val (.int (1 : Int32))] []))
    refine own_Goes.st ?_ (fun _ k => XS.iload X175.here hx rfl (hb hby at_155) rfl k)
    show own_Goes p.tables e below P (T175.setTop (mkF m 157 #[.val (.int p0), .val (.int p1), .val (.int p2), .val (.int p3), .val (.int p4), .val (.int p5), .val (.int (4 : Int32)), .val (.int ff), .val (.ref a133), .val (.ref r175), .val (.int (1 : Int32))] [(.int (4 : Int32))]))
    refine own_Goes.st ?_ (fun _ k => XS.iconst X175.here hx rfl (hb hby at_157) k)
    show own_Goes p.tables e below P (T175.setTop (mkF m 158 #[.val (.int p0), .val (.int p1), .val (.int p2), .val (.int p3), .val (.int p4), .val (.int p5), .val (.int (4 : Int32)), .val (.int ff), .val (.ref a133), .val (.ref r175), .val (.int (1 : Int32))] [(.int (1 : Int32)), (.int (4 : Int32))]))
    refine own_Goes.st ?_ (fun _ k => XS.icmpNo X175.here hx rfl (hb hby at_158) rfl (tlt (by decide : (1 : Int32) < (4 : Int32))).2.2.2 k)
    show own_Goes p.tables e below P (T175.setTop (mkF m 161 #[.val (.int p0), .val (.int p1), .val (.int p2), .val (.int p3), .val (.int p4), .val (.int p5), .val (.int (4 : Int32)), .val (.int ff), .val (.ref a133), .val (.ref r175), .val (.int (1 : Int32))] []))
    refine own_Goes.st ?_ (fun _ k => XS.iload X175.here hx rfl (hb hby at_161) rfl k)
    show own_Goes p.tables e below P (T175.setTop (mkF m 163 #[.val (.int p0), .val (.int p1), .val (.int p2), .val (.int p3), .val (.int p4), .val (.int p5), .val (.int (4 : Int32)), .val (.int ff), .val (.ref a133), .val (.ref r175), .val (.int (1 : Int32))] [(.int (1 : Int32))]))
    refine own_Goes.st ?_ (fun _ k => XS.ifNo X175.here hx rfl (hb hby at_163) rfl ((if0 _ _).trans (feq (by decide : ¬ ((1 : Int32) = (0 : Int32)))).1) k)
    show own_Goes p.tables e below P (T175.setTop (mkF m 166 #[.val (.int p0), .val (.int p1), .val (.int p2), .val (.int p3), .val (.int p4), .val (.int p5), .val (.int (4 : Int32)), .val (.int ff), .val (.ref a133), .val (.ref r175), .val (.int (1 : Int32))] []))
    refine own_Goes.st ?_ (fun _ k => XS.aload X175.here hx rfl (hb hby at_166) rfl rfl k)
    show own_Goes p.tables e below P (T175.setTop (mkF m 168 #[.val (.int p0), .val (.int p1), .val (.int p2), .val (.int p3), .val (.int p4), .val (.int p5), .val (.int (4 : Int32)), .val (.int ff), .val (.ref a133), .val (.ref r175), .val (.int (1 : Int32))] [(.ref r175)]))
    refine own_Goes.st ?_ (fun _ k => XS.iconst X175.here hx rfl (hb hby at_168) k)
    show own_Goes p.tables e below P (T175.setTop (mkF m 169 #[.val (.int p0), .val (.int p1), .val (.int p2), .val (.int p3), .val (.int p4), .val (.int p5), .val (.int (4 : Int32)), .val (.int ff), .val (.ref a133), .val (.ref r175), .val (.int (1 : Int32))] [(.int (1 : Int32)), (.ref r175)]))
    have hin183 : ¬ ((1 : Int32) < 0 ∨ cl181.slots.size ≤ ((1 : Int32)).toNatClampNeg) := inb_of S181 ⟨by decide, by decide⟩
    refine own_Goes.st ?_ (X175.iaload hx (j := (1 : Int32)) (v := (.int p2)) Ar181.1 (State.isArrayOf_alike hZ.alike Ar181.2.1) Ar181.2.2 hin183 (Has.at Hs181 hin183 rfl) (g := (mkF m 169 #[.val (.int p0), .val (.int p1), .val (.int p2), .val (.int p3), .val (.int p4), .val (.int p5), .val (.int (4 : Int32)), .val (.int ff), .val (.ref a133), .val (.ref r175), .val (.int (1 : Int32))] [(.int (1 : Int32)), (.ref r175)])) rfl rfl (hb hby at_169))
    show own_Goes p.tables e below P (T175.setTop (mkF m 170 #[.val (.int p0), .val (.int p1), .val (.int p2), .val (.int p3), .val (.int p4), .val (.int p5), .val (.int (4 : Int32)), .val (.int ff), .val (.ref a133), .val (.ref r175), .val (.int (1 : Int32))] [(.int p2)]))
    refine own_Goes.st ?_ (fun _ k => XS.iloadN X175.here hx rfl (hb hby at_170) rfl k)
    show own_Goes p.tables e below P (T175.setTop (mkF m 171 #[.val (.int p0), .val (.int p1), .val (.int p2), .val (.int p3), .val (.int p4), .val (.int p5), .val (.int (4 : Int32)), .val (.int ff), .val (.ref a133), .val (.ref r175), .val (.int (1 : Int32))] [(.int p2), (.int p2)]))
    refine own_Goes.st ?_ (fun _ k => XS.icmpNo X175.here hx rfl (hb hby at_171) rfl (teq (rfl : p2 = p2)).2 k)
    show own_Goes p.tables e below P (T175.setTop (mkF m 174 #[.val (.int p0), .val (.int p1), .val (.int p2), .val (.int p3), .val (.int p4), .val (.int p5), .val (.int (4 : Int32)), .val (.int ff), .val (.ref a133), .val (.ref r175), .val (.int (1 : Int32))] []))
    refine own_Goes.st ?_ (fun _ k => XS.iconst X175.here hx rfl (hb hby at_174) k)
    show own_Goes p.tables e below P (T175.setTop (mkF m 175 #[.val (.int p0), .val (.int p1), .val (.int p2), .val (.int p3), .val (.int p4), .val (.int p5), .val (.int (4 : Int32)), .val (.int ff), .val (.ref a133), .val (.ref r175), .val (.int (1 : Int32))] [(.int (1 : Int32))]))
    refine own_Goes.st ?_ (fun _ k => XS.goto X175.here hx rfl (pc0 := 175) (pc' := 179) rfl (hb hby at_175) (by decide) (by decide) k)
    show own_Goes p.tables e below P (T175.setTop (mkF m 179 #[.val (.int p0), .val (.int p1), .val (.int p2), .val (.int p3), .val (.int p4), .val (.int p5), .val (.int (4 : Int32)), .val (.int ff), .val (.ref a133), .val (.ref r175), .val (.int (1 : Int32))] [(.int (1 : Int32))]))
    refine own_Goes.st ?_ (fun _ k => XS.istore X175.here hx rfl (hb hby at_179) rfl (l' := #[.val (.int p0), .val (.int p1), .val (.int p2), .val (.int p3), .val (.int p4), .val (.int p5), .val (.int (4 : Int32)), .val (.int ff), .val (.ref a133), .val (.ref r175), .val (.int (1 : Int32))]) rfl k)
    show own_Goes p.tables e below P (T175.setTop (mkF m 181 #[.val (.int p0), .val (.int p1), .val (.int p2), .val (.int p3), .val (.int p4), .val (.int p5), .val (.int (4 : Int32)), .val (.int ff), .val (.ref a133), .val (.ref r175), .val (.int (1 : Int32))] []))
    refine own_Goes.st ?_ (fun _ k => XS.iload X175.here hx rfl (hb hby at_181) rfl k)
    show own_Goes p.tables e below P (T175.setTop (mkF m 183 #[.val (.int p0), .val (.int p1), .val (.int p2), .val (.int p3), .val (.int p4), .val (.int p5), .val (.int (4 : Int32)), .val (.int ff), .val (.ref a133), .val (.ref r175), .val (.int (1 : Int32))] [(.int (4 : Int32))]))
    refine own_Goes.st ?_ (fun _ k => XS.iconst X175.here hx rfl (hb hby at_183) k)
    show own_Goes p.tables e below P (T175.setTop (mkF m 184 #[.val (.int p0), .val (.int p1), .val (.int p2), .val (.int p3), .val (.int p4), .val (.int p5), .val (.int (4 : Int32)), .val (.int ff), .val (.ref a133), .val (.ref r175), .val (.int (1 : Int32))] [(.int (2 : Int32)), (.int (4 : Int32))]))
    refine own_Goes.st ?_ (fun _ k => XS.icmpNo X175.here hx rfl (hb hby at_184) rfl (tlt (by decide : (2 : Int32) < (4 : Int32))).2.2.2 k)
    show own_Goes p.tables e below P (T175.setTop (mkF m 187 #[.val (.int p0), .val (.int p1), .val (.int p2), .val (.int p3), .val (.int p4), .val (.int p5), .val (.int (4 : Int32)), .val (.int ff), .val (.ref a133), .val (.ref r175), .val (.int (1 : Int32))] []))
    refine own_Goes.st ?_ (fun _ k => XS.iload X175.here hx rfl (hb hby at_187) rfl k)
    show own_Goes p.tables e below P (T175.setTop (mkF m 189 #[.val (.int p0), .val (.int p1), .val (.int p2), .val (.int p3), .val (.int p4), .val (.int p5), .val (.int (4 : Int32)), .val (.int ff), .val (.ref a133), .val (.ref r175), .val (.int (1 : Int32))] [(.int (1 : Int32))]))
    refine own_Goes.st ?_ (fun _ k => XS.ifNo X175.here hx rfl (hb hby at_189) rfl ((if0 _ _).trans (feq (by decide : ¬ ((1 : Int32) = (0 : Int32)))).1) k)
    show own_Goes p.tables e below P (T175.setTop (mkF m 192 #[.val (.int p0), .val (.int p1), .val (.int p2), .val (.int p3), .val (.int p4), .val (.int p5), .val (.int (4 : Int32)), .val (.int ff), .val (.ref a133), .val (.ref r175), .val (.int (1 : Int32))] []))
    refine own_Goes.st ?_ (fun _ k => XS.aload X175.here hx rfl (hb hby at_192) rfl rfl k)
    show own_Goes p.tables e below P (T175.setTop (mkF m 194 #[.val (.int p0), .val (.int p1), .val (.int p2), .val (.int p3), .val (.int p4), .val (.int p5), .val (.int (4 : Int32)), .val (.int ff), .val (.ref a133), .val (.ref r175), .val (.int (1 : Int32))] [(.ref r175)]))
    refine own_Goes.st ?_ (fun _ k => XS.iconst X175.here hx rfl (hb hby at_194) k)
    show own_Goes p.tables e below P (T175.setTop (mkF m 195 #[.val (.int p0), .val (.int p1), .val (.int p2), .val (.int p3), .val (.int p4), .val (.int p5), .val (.int (4 : Int32)), .val (.int ff), .val (.ref a133), .val (.ref r175), .val (.int (1 : Int32))] [(.int (2 : Int32)), (.ref r175)]))
    have hin184 : ¬ ((2 : Int32) < 0 ∨ cl181.slots.size ≤ ((2 : Int32)).toNatClampNeg) := inb_of S181 ⟨by decide, by decide⟩
    refine own_Goes.st ?_ (X175.iaload hx (j := (2 : Int32)) (v := (.int p3)) Ar181.1 (State.isArrayOf_alike hZ.alike Ar181.2.1) Ar181.2.2 hin184 (Has.at Hs181 hin184 rfl) (g := (mkF m 195 #[.val (.int p0), .val (.int p1), .val (.int p2), .val (.int p3), .val (.int p4), .val (.int p5), .val (.int (4 : Int32)), .val (.int ff), .val (.ref a133), .val (.ref r175), .val (.int (1 : Int32))] [(.int (2 : Int32)), (.ref r175)])) rfl rfl (hb hby at_195))
    show own_Goes p.tables e below P (T175.setTop (mkF m 196 #[.val (.int p0), .val (.int p1), .val (.int p2), .val (.int p3), .val (.int p4), .val (.int p5), .val (.int (4 : Int32)), .val (.int ff), .val (.ref a133), .val (.ref r175), .val (.int (1 : Int32))] [(.int p3)]))
    refine own_Goes.st ?_ (fun _ k => XS.iloadN X175.here hx rfl (hb hby at_196) rfl k)
    show own_Goes p.tables e below P (T175.setTop (mkF m 197 #[.val (.int p0), .val (.int p1), .val (.int p2), .val (.int p3), .val (.int p4), .val (.int p5), .val (.int (4 : Int32)), .val (.int ff), .val (.ref a133), .val (.ref r175), .val (.int (1 : Int32))] [(.int p3), (.int p3)]))
    refine own_Goes.st ?_ (fun _ k => XS.icmpNo X175.here hx rfl (hb hby at_197) rfl (teq (rfl : p3 = p3)).2 k)
    show own_Goes p.tables e below P (T175.setTop (mkF m 200 #[.val (.int p0), .val (.int p1), .val (.int p2), .val (.int p3), .val (.int p4), .val (.int p5), .val (.int (4 : Int32)), .val (.int ff), .val (.ref a133), .val (.ref r175), .val (.int (1 : Int32))] []))
    refine own_Goes.st ?_ (fun _ k => XS.iconst X175.here hx rfl (hb hby at_200) k)
    show own_Goes p.tables e below P (T175.setTop (mkF m 201 #[.val (.int p0), .val (.int p1), .val (.int p2), .val (.int p3), .val (.int p4), .val (.int p5), .val (.int (4 : Int32)), .val (.int ff), .val (.ref a133), .val (.ref r175), .val (.int (1 : Int32))] [(.int (1 : Int32))]))
    refine own_Goes.st ?_ (fun _ k => XS.goto X175.here hx rfl (pc0 := 201) (pc' := 205) rfl (hb hby at_201) (by decide) (by decide) k)
    show own_Goes p.tables e below P (T175.setTop (mkF m 205 #[.val (.int p0), .val (.int p1), .val (.int p2), .val (.int p3), .val (.int p4), .val (.int p5), .val (.int (4 : Int32)), .val (.int ff), .val (.ref a133), .val (.ref r175), .val (.int (1 : Int32))] [(.int (1 : Int32))]))
    refine own_Goes.st ?_ (fun _ k => XS.istore X175.here hx rfl (hb hby at_205) rfl (l' := #[.val (.int p0), .val (.int p1), .val (.int p2), .val (.int p3), .val (.int p4), .val (.int p5), .val (.int (4 : Int32)), .val (.int ff), .val (.ref a133), .val (.ref r175), .val (.int (1 : Int32))]) rfl k)
    show own_Goes p.tables e below P (T175.setTop (mkF m 207 #[.val (.int p0), .val (.int p1), .val (.int p2), .val (.int p3), .val (.int p4), .val (.int p5), .val (.int (4 : Int32)), .val (.int ff), .val (.ref a133), .val (.ref r175), .val (.int (1 : Int32))] []))
    refine own_Goes.st ?_ (fun _ k => XS.iload X175.here hx rfl (hb hby at_207) rfl k)
    show own_Goes p.tables e below P (T175.setTop (mkF m 209 #[.val (.int p0), .val (.int p1), .val (.int p2), .val (.int p3), .val (.int p4), .val (.int p5), .val (.int (4 : Int32)), .val (.int ff), .val (.ref a133), .val (.ref r175), .val (.int (1 : Int32))] [(.int (4 : Int32))]))
    refine own_Goes.st ?_ (fun _ k => XS.iconst X175.here hx rfl (hb hby at_209) k)
    show own_Goes p.tables e below P (T175.setTop (mkF m 210 #[.val (.int p0), .val (.int p1), .val (.int p2), .val (.int p3), .val (.int p4), .val (.int p5), .val (.int (4 : Int32)), .val (.int ff), .val (.ref a133), .val (.ref r175), .val (.int (1 : Int32))] [(.int (3 : Int32)), (.int (4 : Int32))]))
    refine own_Goes.st ?_ (fun _ k => XS.icmpNo X175.here hx rfl (hb hby at_210) rfl (tlt (by decide : (3 : Int32) < (4 : Int32))).2.2.2 k)
    show own_Goes p.tables e below P (T175.setTop (mkF m 213 #[.val (.int p0), .val (.int p1), .val (.int p2), .val (.int p3), .val (.int p4), .val (.int p5), .val (.int (4 : Int32)), .val (.int ff), .val (.ref a133), .val (.ref r175), .val (.int (1 : Int32))] []))
    refine own_Goes.st ?_ (fun _ k => XS.iload X175.here hx rfl (hb hby at_213) rfl k)
    show own_Goes p.tables e below P (T175.setTop (mkF m 215 #[.val (.int p0), .val (.int p1), .val (.int p2), .val (.int p3), .val (.int p4), .val (.int p5), .val (.int (4 : Int32)), .val (.int ff), .val (.ref a133), .val (.ref r175), .val (.int (1 : Int32))] [(.int (1 : Int32))]))
    refine own_Goes.st ?_ (fun _ k => XS.ifNo X175.here hx rfl (hb hby at_215) rfl ((if0 _ _).trans (feq (by decide : ¬ ((1 : Int32) = (0 : Int32)))).1) k)
    show own_Goes p.tables e below P (T175.setTop (mkF m 218 #[.val (.int p0), .val (.int p1), .val (.int p2), .val (.int p3), .val (.int p4), .val (.int p5), .val (.int (4 : Int32)), .val (.int ff), .val (.ref a133), .val (.ref r175), .val (.int (1 : Int32))] []))
    refine own_Goes.st ?_ (fun _ k => XS.aload X175.here hx rfl (hb hby at_218) rfl rfl k)
    show own_Goes p.tables e below P (T175.setTop (mkF m 220 #[.val (.int p0), .val (.int p1), .val (.int p2), .val (.int p3), .val (.int p4), .val (.int p5), .val (.int (4 : Int32)), .val (.int ff), .val (.ref a133), .val (.ref r175), .val (.int (1 : Int32))] [(.ref r175)]))
    refine own_Goes.st ?_ (fun _ k => XS.iconst X175.here hx rfl (hb hby at_220) k)
    show own_Goes p.tables e below P (T175.setTop (mkF m 221 #[.val (.int p0), .val (.int p1), .val (.int p2), .val (.int p3), .val (.int p4), .val (.int p5), .val (.int (4 : Int32)), .val (.int ff), .val (.ref a133), .val (.ref r175), .val (.int (1 : Int32))] [(.int (3 : Int32)), (.ref r175)]))
    have hin185 : ¬ ((3 : Int32) < 0 ∨ cl181.slots.size ≤ ((3 : Int32)).toNatClampNeg) := inb_of S181 ⟨by decide, by decide⟩
    refine own_Goes.st ?_ (X175.iaload hx (j := (3 : Int32)) (v := (.int p4)) Ar181.1 (State.isArrayOf_alike hZ.alike Ar181.2.1) Ar181.2.2 hin185 (Has.at Hs181 hin185 rfl) (g := (mkF m 221 #[.val (.int p0), .val (.int p1), .val (.int p2), .val (.int p3), .val (.int p4), .val (.int p5), .val (.int (4 : Int32)), .val (.int ff), .val (.ref a133), .val (.ref r175), .val (.int (1 : Int32))] [(.int (3 : Int32)), (.ref r175)])) rfl rfl (hb hby at_221))
    show own_Goes p.tables e below P (T175.setTop (mkF m 222 #[.val (.int p0), .val (.int p1), .val (.int p2), .val (.int p3), .val (.int p4), .val (.int p5), .val (.int (4 : Int32)), .val (.int ff), .val (.ref a133), .val (.ref r175), .val (.int (1 : Int32))] [(.int p4)]))
    refine own_Goes.st ?_ (fun _ k => XS.iload X175.here hx rfl (hb hby at_222) rfl k)
    show own_Goes p.tables e below P (T175.setTop (mkF m 224 #[.val (.int p0), .val (.int p1), .val (.int p2), .val (.int p3), .val (.int p4), .val (.int p5), .val (.int (4 : Int32)), .val (.int ff), .val (.ref a133), .val (.ref r175), .val (.int (1 : Int32))] [(.int p4), (.int p4)]))
    refine own_Goes.st ?_ (fun _ k => XS.icmpNo X175.here hx rfl (hb hby at_224) rfl (teq (rfl : p4 = p4)).2 k)
    show own_Goes p.tables e below P (T175.setTop (mkF m 227 #[.val (.int p0), .val (.int p1), .val (.int p2), .val (.int p3), .val (.int p4), .val (.int p5), .val (.int (4 : Int32)), .val (.int ff), .val (.ref a133), .val (.ref r175), .val (.int (1 : Int32))] []))
    refine own_Goes.st ?_ (fun _ k => XS.iconst X175.here hx rfl (hb hby at_227) k)
    show own_Goes p.tables e below P (T175.setTop (mkF m 228 #[.val (.int p0), .val (.int p1), .val (.int p2), .val (.int p3), .val (.int p4), .val (.int p5), .val (.int (4 : Int32)), .val (.int ff), .val (.ref a133), .val (.ref r175), .val (.int (1 : Int32))] [(.int (1 : Int32))]))
    refine own_Goes.st ?_ (fun _ k => XS.goto X175.here hx rfl (pc0 := 228) (pc' := 232) rfl (hb hby at_228) (by decide) (by decide) k)
    show own_Goes p.tables e below P (T175.setTop (mkF m 232 #[.val (.int p0), .val (.int p1), .val (.int p2), .val (.int p3), .val (.int p4), .val (.int p5), .val (.int (4 : Int32)), .val (.int ff), .val (.ref a133), .val (.ref r175), .val (.int (1 : Int32))] [(.int (1 : Int32))]))
    refine own_Goes.st ?_ (fun _ k => XS.istore X175.here hx rfl (hb hby at_232) rfl (l' := #[.val (.int p0), .val (.int p1), .val (.int p2), .val (.int p3), .val (.int p4), .val (.int p5), .val (.int (4 : Int32)), .val (.int ff), .val (.ref a133), .val (.ref r175), .val (.int (1 : Int32))]) rfl k)
    show own_Goes p.tables e below P (T175.setTop (mkF m 234 #[.val (.int p0), .val (.int p1), .val (.int p2), .val (.int p3), .val (.int p4), .val (.int p5), .val (.int (4 : Int32)), .val (.int ff), .val (.ref a133), .val (.ref r175), .val (.int (1 : Int32))] []))
    refine own_Goes.st ?_ (fun _ k => XS.iload X175.here hx rfl (hb hby at_234) rfl k)
    show own_Goes p.tables e below P (T175.setTop (mkF m 236 #[.val (.int p0), .val (.int p1), .val (.int p2), .val (.int p3), .val (.int p4), .val (.int p5), .val (.int (4 : Int32)), .val (.int ff), .val (.ref a133), .val (.ref r175), .val (.int (1 : Int32))] [(.int (4 : Int32))]))
    refine own_Goes.st ?_ (fun _ k => XS.iconst X175.here hx rfl (hb hby at_236) k)
    show own_Goes p.tables e below P (T175.setTop (mkF m 237 #[.val (.int p0), .val (.int p1), .val (.int p2), .val (.int p3), .val (.int p4), .val (.int p5), .val (.int (4 : Int32)), .val (.int ff), .val (.ref a133), .val (.ref r175), .val (.int (1 : Int32))] [(.int (4 : Int32)), (.int (4 : Int32))]))
    refine own_Goes.st ?_ (fun _ k => XS.icmpYes X175.here hx rfl (pc0 := 237) (pc' := 261) rfl (hb hby at_237) rfl (flt (by decide : ¬ ((4 : Int32) < (4 : Int32)))).2.2.2 (by decide) (by decide) k)
    show own_Goes p.tables e below P (T175.setTop (mkF m 261 #[.val (.int p0), .val (.int p1), .val (.int p2), .val (.int p3), .val (.int p4), .val (.int p5), .val (.int (4 : Int32)), .val (.int ff), .val (.ref a133), .val (.ref r175), .val (.int (1 : Int32))] []))
    refine own_Goes.st ?_ (fun _ k => XS.iload X175.here hx rfl (hb hby at_261) rfl k)
    show own_Goes p.tables e below P (T175.setTop (mkF m 263 #[.val (.int p0), .val (.int p1), .val (.int p2), .val (.int p3), .val (.int p4), .val (.int p5), .val (.int (4 : Int32)), .val (.int ff), .val (.ref a133), .val (.ref r175), .val (.int (1 : Int32))] [(.int (4 : Int32))]))
    refine own_Goes.st ?_ (fun _ k => XS.iconst X175.here hx rfl (hb hby at_263) k)
    show own_Goes p.tables e below P (T175.setTop (mkF m 264 #[.val (.int p0), .val (.int p1), .val (.int p2), .val (.int p3), .val (.int p4), .val (.int p5), .val (.int (4 : Int32)), .val (.int ff), .val (.ref a133), .val (.ref r175), .val (.int (1 : Int32))] [(.int (5 : Int32)), (.int (4 : Int32))]))
    refine own_Goes.st ?_ (fun _ k => XS.icmpYes X175.here hx rfl (pc0 := 264) (pc' := 288) rfl (hb hby at_264) rfl (flt (by decide : ¬ ((5 : Int32) < (4 : Int32)))).2.2.2 (by decide) (by decide) k)
    show own_Goes p.tables e below P (T175.setTop (mkF m 288 #[.val (.int p0), .val (.int p1), .val (.int p2), .val (.int p3), .val (.int p4), .val (.int p5), .val (.int (4 : Int32)), .val (.int ff), .val (.ref a133), .val (.ref r175), .val (.int (1 : Int32))] []))
    refine own_Goes.st ?_ (fun _ k => XS.iload X175.here hx rfl (hb hby at_288) rfl k)
    show own_Goes p.tables e below P (T175.setTop (mkF m 290 #[.val (.int p0), .val (.int p1), .val (.int p2), .val (.int p3), .val (.int p4), .val (.int p5), .val (.int (4 : Int32)), .val (.int ff), .val (.ref a133), .val (.ref r175), .val (.int (1 : Int32))] [(.int (1 : Int32))]))
    obtain ⟨fs, hr, hrun, hended, hW, hsame⟩ := X175.leave (v := some (.int (1 : Int32))) (fun h => by rw [Bd.returns] at h; cases h)
    exact own_Goes.fin _ _ (retOut X175 hx (t := .boolean) Bd.returns rfl (Or.inl ⟨rfl, Or.inr (Or.inl rfl), _, rfl⟩) (hb hby at_290) hr) (hPP _ _ ⟨hrun, hended, _, _, rfl, (by show Q_law n0 _ _; exact ⟨rfl, N175⟩), ⟨_, rfl⟩, hW, hsame.mono (by decide) (by decide)⟩)
  · skip
    show own_Goes p.tables e below P (s₁.setTop (mkF m 15 #[.val (.int p0), .val (.int p1), .val (.int p2), .val (.int p3), .val (.int p4), .val (.int p5), .val (.int (5 : Int32)), .val (.int ff), .unset, .unset, .unset] []))
    obtain ⟨T186, h186, X186, e186, E186, A186, D186, -, st186⟩ := newO X0 hx hZ hown (hw _ (List.mem_of_getElem? (i := 2) rfl)) (hw _ (List.mem_of_getElem? (i := 3) rfl)) (hw _ (List.mem_of_getElem? (i := 4) rfl)) e0 (g := (mkF m 15 #[.val (.int p0), .val (.int p1), .val (.int p2), .val (.int p3), .val (.int p4), .val (.int p5), .val (.int (5 : Int32)), .val (.int ff), .unset, .unset, .unset] [])) rfl (hb hby at_15) (by decide) (by decide)
    obtain ⟨a186, g186⟩ : ∃ z, z = h0.size := ⟨_, rfl⟩
    rw [← g186] at A186 D186 st186
    have ge_a186 : n0 ≤ a186 := Nat.le_trans Z0 (Nat.le_of_eq g186.symm)
    refine own_Goes.st ?_ st186
    have Z187 : n0 ≤ h186.size := Nat.le_trans Z0 E186.1
    have F188 : Fld Z h186 a186 "com/example/usnea/usnea/datalog/IntList" "values" "[I" .null := D186 (Or.inl (hw _ (List.mem_of_getElem? (i := 13) rfl))) (ty := (.array .int)) (by decide)
    have F189 : Fld Z h186 a186 "com/example/usnea/usnea/datalog/IntList" "size" "I" (.int (0 : Int32)) := D186 (Or.inl (hw _ (List.mem_of_getElem? (i := 20) rfl))) (ty := .int) (by decide)
    show own_Goes p.tables e below P (T186.setTop (mkF m 18 #[.val (.int p0), .val (.int p1), .val (.int p2), .val (.int p3), .val (.int p4), .val (.int p5), .val (.int (5 : Int32)), .val (.int ff), .unset, .unset, .unset] [(.ref a186)]))
    refine own_Goes.st ?_ (fun _ k => XS.dup X186.here hx rfl (hb hby at_18) rfl rfl k)
    show own_Goes p.tables e below P (T186.setTop (mkF m 19 #[.val (.int p0), .val (.int p1), .val (.int p2), .val (.int p3), .val (.int p4), .val (.int p5), .val (.int (5 : Int32)), .val (.int ff), .unset, .unset, .unset] [(.ref a186), (.ref a186)]))
    obtain ⟨_, _, ⟨T190, L190, k190, n190⟩, -, X190, ⟨Lc190, hQ190, l190, y190, z190⟩, st190⟩ := X186.specialBack hx (y := (⟨"com/example/usnea/usnea/datalog/IntList", "<init>", "()V"⟩ : MethodName)) rfl hown (mvT hZ (hw _ (List.mem_of_getElem? (i := 5) rfl))) (mvT hZ (hw _ (List.mem_of_getElem? (i := 6) rfl))) (mvT hZ (hw _ (List.mem_of_getElem? (i := 7) rfl))) (by decide) (backOf (W := 1) (rm_ctor l Z a0 hw [] a186 .null h186 n0 Z187 A186 F188 F189 ge_a186) hZ (hw _ (List.mem_of_getElem? (i := 7) rfl)) (hw _ (List.mem_of_getElem? (i := 4) rfl)) (by decide) (by decide)) (g := (mkF m 19 #[.val (.int p0), .val (.int p1), .val (.int p2), .val (.int p3), .val (.int p4), .val (.int p5), .val (.int (5 : Int32)), .val (.int ff), .unset, .unset, .unset] [(.ref a186), (.ref a186)])) rfl (by rw [hml]; rfl) (Steps.refl _) (a := a186) (argsL := []) (rest := [(.ref a186)]) (lenOf own_pd__28__29_V rfl) rfl (by show 2 * 0 + _ ≤ _; exact Nat.le_of_eq rfl) (hb hby at_19) (fun _ _ => ⟨rfl, e186, (by decide : 1 + 1 ≤ _), (by decide : 2 + 4 ≤ _)⟩)
    dsimp only [Pt.U, Pt.locs, Pt.cells, Pt.slots] at X190 l190 y190 z190 st190 hQ190
    rw [l190, y190, z190] at X190
    obtain ⟨b190, k190, rfl, Nq190, K190, f191, f192, f193, f194, f195, f196⟩ := hQ190
    have N190 := Fr.app N0 Nq190
    refine own_Goes.tr st190 ?_
    have ne197 : a186 ≠ b190 := Nat.ne_of_lt (Nat.lt_of_lt_of_le A186.lt f194)
    have ge_b190 : n0 ≤ b190 := Nat.le_trans Z187 f194
    have Z198 : n0 ≤ T190.heap.size := Nat.le_trans Z187 K190.1
    show own_Goes p.tables e below P (T190.setTop (mkF m 22 #[.val (.int p0), .val (.int p1), .val (.int p2), .val (.int p3), .val (.int p4), .val (.int p5), .val (.int (5 : Int32)), .val (.int ff), .unset, .unset, .unset] [(.ref a186)]))
    refine own_Goes.st ?_ (fun _ k => XS.astore X190.here hx rfl (hb hby at_22) rfl rfl (l' := #[.val (.int p0), .val (.int p1), .val (.int p2), .val (.int p3), .val (.int p4), .val (.int p5), .val (.int (5 : Int32)), .val (.int ff), .val (.ref a186), .unset, .unset]) rfl k)
    show own_Goes p.tables e below P (T190.setTop (mkF m 24 #[.val (.int p0), .val (.int p1), .val (.int p2), .val (.int p3), .val (.int p4), .val (.int p5), .val (.int (5 : Int32)), .val (.int ff), .val (.ref a186), .unset, .unset] []))
    refine own_Goes.st ?_ (fun _ k => XS.iload X190.here hx rfl (hb hby at_24) rfl k)
    show own_Goes p.tables e below P (T190.setTop (mkF m 26 #[.val (.int p0), .val (.int p1), .val (.int p2), .val (.int p3), .val (.int p4), .val (.int p5), .val (.int (5 : Int32)), .val (.int ff), .val (.ref a186), .unset, .unset] [(.int (5 : Int32))]))
    refine own_Goes.st ?_ (fun _ k => XS.ifNo X190.here hx rfl (hb hby at_26) rfl ((if0 _ _).trans (tlt (by decide : (0 : Int32) < (5 : Int32))).2.2.2) k)
    show own_Goes p.tables e below P (T190.setTop (mkF m 29 #[.val (.int p0), .val (.int p1), .val (.int p2), .val (.int p3), .val (.int p4), .val (.int p5), .val (.int (5 : Int32)), .val (.int ff), .val (.ref a186), .unset, .unset] []))
    refine own_Goes.st ?_ (fun _ k => XS.aload X190.here hx rfl (hb hby at_29) rfl rfl k)
    show own_Goes p.tables e below P (T190.setTop (mkF m 31 #[.val (.int p0), .val (.int p1), .val (.int p2), .val (.int p3), .val (.int p4), .val (.int p5), .val (.int (5 : Int32)), .val (.int ff), .val (.ref a186), .unset, .unset] [(.ref a186)]))
    refine own_Goes.st ?_ (fun _ k => XS.iloadN X190.here hx rfl (hb hby at_31) rfl k)
    show own_Goes p.tables e below P (T190.setTop (mkF m 32 #[.val (.int p0), .val (.int p1), .val (.int p2), .val (.int p3), .val (.int p4), .val (.int p5), .val (.int (5 : Int32)), .val (.int ff), .val (.ref a186), .unset, .unset] [(.int p1), (.ref a186)]))
    obtain ⟨cq199, kq199, q199a, q199b, q199c⟩ := isOf hZ rfl f191
    obtain ⟨_, _, ⟨T199, L199, k199, n199⟩, -, X199, ⟨Lc199, hQ199, l199, y199, z199⟩, st199⟩ := X190.virtualBack hx (y := (⟨"com/example/usnea/usnea/datalog/IntList", "add", "(I)V"⟩ : MethodName)) (z := (⟨"com/example/usnea/usnea/datalog/IntList", "add", "(I)V"⟩ : MethodName)) hown (mvT hZ (hw _ (List.mem_of_getElem? (i := 38) rfl))) (mvT hZ (hw _ (List.mem_of_getElem? (i := 39) rfl))) (notFace_of_selects (args := #[]) (mvT hZ (hw _ (List.mem_of_getElem? (i := 41) rfl)))) (mvT hZ (hw _ (List.mem_of_getElem? (i := 41) rfl))) (mvT hZ (hw _ (List.mem_of_getElem? (i := 40) rfl))) (by decide) (backOf (W := 0) (rm_add_0 l Z a0 hw [] a186 p1 b190 k190 T190.heap n0 Z198 f191 f192 f193 f195 f196 ge_a186 ge_b190 ne197) hZ (hw _ (List.mem_of_getElem? (i := 42) rfl)) (hw _ (List.mem_of_getElem? (i := 4) rfl)) (by decide) (by decide)) q199a q199c (g := (mkF m 32 #[.val (.int p0), .val (.int p1), .val (.int p2), .val (.int p3), .val (.int p4), .val (.int p5), .val (.int (5 : Int32)), .val (.int ff), .val (.ref a186), .unset, .unset] [(.int p1), (.ref a186)])) rfl (by rw [hml]; rfl) (Steps.refl _) (argsL := [(.int p1)]) (rest := []) (lenOf own_pd__28_I_29_V rfl) rfl (by show 2 * 0 + _ ≤ _; exact Nat.le_of_eq rfl) (hb hby at_32) (fun _ _ => ⟨rfl, rfl, (by decide : 2 + 0 ≤ _), (by decide : 6 + 0 ≤ _)⟩)
    dsimp only [Pt.U, Pt.locs, Pt.cells, Pt.slots] at X199 l199 y199 z199 st199 hQ199
    rw [l199, y199, z199] at X199
    obtain ⟨rfl, Nq199, K199, f200, f201, f202, f203, f204⟩ := hQ199
    have N199 := Fr.app N190 Nq199
    refine own_Goes.tr st199 ?_
    have Z205 : n0 ≤ T199.heap.size := Nat.le_trans Z198 K199.1
    show own_Goes p.tables e below P (T199.setTop (mkF m 35 #[.val (.int p0), .val (.int p1), .val (.int p2), .val (.int p3), .val (.int p4), .val (.int p5), .val (.int (5 : Int32)), .val (.int ff), .val (.ref a186), .unset, .unset] []))
    refine own_Goes.st ?_ (fun _ k => XS.iload X199.here hx rfl (hb hby at_35) rfl k)
    show own_Goes p.tables e below P (T199.setTop (mkF m 37 #[.val (.int p0), .val (.int p1), .val (.int p2), .val (.int p3), .val (.int p4), .val (.int p5), .val (.int (5 : Int32)), .val (.int ff), .val (.ref a186), .unset, .unset] [(.int (5 : Int32))]))
    refine own_Goes.st ?_ (fun _ k => XS.iconst X199.here hx rfl (hb hby at_37) k)
    show own_Goes p.tables e below P (T199.setTop (mkF m 38 #[.val (.int p0), .val (.int p1), .val (.int p2), .val (.int p3), .val (.int p4), .val (.int p5), .val (.int (5 : Int32)), .val (.int ff), .val (.ref a186), .unset, .unset] [(.int (1 : Int32)), (.int (5 : Int32))]))
    refine own_Goes.st ?_ (fun _ k => XS.icmpNo X199.here hx rfl (hb hby at_38) rfl (tlt (by decide : (1 : Int32) < (5 : Int32))).2.2.2 k)
    show own_Goes p.tables e below P (T199.setTop (mkF m 41 #[.val (.int p0), .val (.int p1), .val (.int p2), .val (.int p3), .val (.int p4), .val (.int p5), .val (.int (5 : Int32)), .val (.int ff), .val (.ref a186), .unset, .unset] []))
    refine own_Goes.st ?_ (fun _ k => XS.aload X199.here hx rfl (hb hby at_41) rfl rfl k)
    show own_Goes p.tables e below P (T199.setTop (mkF m 43 #[.val (.int p0), .val (.int p1), .val (.int p2), .val (.int p3), .val (.int p4), .val (.int p5), .val (.int (5 : Int32)), .val (.int ff), .val (.ref a186), .unset, .unset] [(.ref a186)]))
    refine own_Goes.st ?_ (fun _ k => XS.iloadN X199.here hx rfl (hb hby at_43) rfl k)
    show own_Goes p.tables e below P (T199.setTop (mkF m 44 #[.val (.int p0), .val (.int p1), .val (.int p2), .val (.int p3), .val (.int p4), .val (.int p5), .val (.int (5 : Int32)), .val (.int ff), .val (.ref a186), .unset, .unset] [(.int p2), (.ref a186)]))
    obtain ⟨cq206, kq206, q206a, q206b, q206c⟩ := isOf hZ rfl f200
    obtain ⟨_, _, ⟨T206, L206, k206, n206⟩, -, X206, ⟨Lc206, hQ206, l206, y206, z206⟩, st206⟩ := X199.virtualBack hx (y := (⟨"com/example/usnea/usnea/datalog/IntList", "add", "(I)V"⟩ : MethodName)) (z := (⟨"com/example/usnea/usnea/datalog/IntList", "add", "(I)V"⟩ : MethodName)) hown (mvT hZ (hw _ (List.mem_of_getElem? (i := 38) rfl))) (mvT hZ (hw _ (List.mem_of_getElem? (i := 39) rfl))) (notFace_of_selects (args := #[]) (mvT hZ (hw _ (List.mem_of_getElem? (i := 41) rfl)))) (mvT hZ (hw _ (List.mem_of_getElem? (i := 41) rfl))) (mvT hZ (hw _ (List.mem_of_getElem? (i := 40) rfl))) (by decide) (backOf (W := 0) (rm_add_1 l Z a0 hw [] a186 p2 b190 k190 p1 T199.heap n0 Z205 f200 f201 f202 f203 f204 ge_a186 ge_b190 ne197) hZ (hw _ (List.mem_of_getElem? (i := 42) rfl)) (hw _ (List.mem_of_getElem? (i := 4) rfl)) (by decide) (by decide)) q206a q206c (g := (mkF m 44 #[.val (.int p0), .val (.int p1), .val (.int p2), .val (.int p3), .val (.int p4), .val (.int p5), .val (.int (5 : Int32)), .val (.int ff), .val (.ref a186), .unset, .unset] [(.int p2), (.ref a186)])) rfl (by rw [hml]; rfl) (Steps.refl _) (argsL := [(.int p2)]) (rest := []) (lenOf own_pd__28_I_29_V rfl) rfl (by show 2 * 0 + _ ≤ _; exact Nat.le_of_eq rfl) (hb hby at_44) (fun _ _ => ⟨rfl, rfl, (by decide : 2 + 0 ≤ _), (by decide : 6 + 0 ≤ _)⟩)
    dsimp only [Pt.U, Pt.locs, Pt.cells, Pt.slots] at X206 l206 y206 z206 st206 hQ206
    rw [l206, y206, z206] at X206
    obtain ⟨rfl, Nq206, K206, f207, f208, f209, f210, f211⟩ := hQ206
    have N206 := Fr.app N199 Nq206
    refine own_Goes.tr st206 ?_
    have Z212 : n0 ≤ T206.heap.size := Nat.le_trans Z205 K206.1
    show own_Goes p.tables e below P (T206.setTop (mkF m 47 #[.val (.int p0), .val (.int p1), .val (.int p2), .val (.int p3), .val (.int p4), .val (.int p5), .val (.int (5 : Int32)), .val (.int ff), .val (.ref a186), .unset, .unset] []))
    refine own_Goes.st ?_ (fun _ k => XS.iload X206.here hx rfl (hb hby at_47) rfl k)
    show own_Goes p.tables e below P (T206.setTop (mkF m 49 #[.val (.int p0), .val (.int p1), .val (.int p2), .val (.int p3), .val (.int p4), .val (.int p5), .val (.int (5 : Int32)), .val (.int ff), .val (.ref a186), .unset, .unset] [(.int (5 : Int32))]))
    refine own_Goes.st ?_ (fun _ k => XS.iconst X206.here hx rfl (hb hby at_49) k)
    show own_Goes p.tables e below P (T206.setTop (mkF m 50 #[.val (.int p0), .val (.int p1), .val (.int p2), .val (.int p3), .val (.int p4), .val (.int p5), .val (.int (5 : Int32)), .val (.int ff), .val (.ref a186), .unset, .unset] [(.int (2 : Int32)), (.int (5 : Int32))]))
    refine own_Goes.st ?_ (fun _ k => XS.icmpNo X206.here hx rfl (hb hby at_50) rfl (tlt (by decide : (2 : Int32) < (5 : Int32))).2.2.2 k)
    show own_Goes p.tables e below P (T206.setTop (mkF m 53 #[.val (.int p0), .val (.int p1), .val (.int p2), .val (.int p3), .val (.int p4), .val (.int p5), .val (.int (5 : Int32)), .val (.int ff), .val (.ref a186), .unset, .unset] []))
    refine own_Goes.st ?_ (fun _ k => XS.aload X206.here hx rfl (hb hby at_53) rfl rfl k)
    show own_Goes p.tables e below P (T206.setTop (mkF m 55 #[.val (.int p0), .val (.int p1), .val (.int p2), .val (.int p3), .val (.int p4), .val (.int p5), .val (.int (5 : Int32)), .val (.int ff), .val (.ref a186), .unset, .unset] [(.ref a186)]))
    refine own_Goes.st ?_ (fun _ k => XS.iloadN X206.here hx rfl (hb hby at_55) rfl k)
    show own_Goes p.tables e below P (T206.setTop (mkF m 56 #[.val (.int p0), .val (.int p1), .val (.int p2), .val (.int p3), .val (.int p4), .val (.int p5), .val (.int (5 : Int32)), .val (.int ff), .val (.ref a186), .unset, .unset] [(.int p3), (.ref a186)]))
    obtain ⟨cq213, kq213, q213a, q213b, q213c⟩ := isOf hZ rfl f207
    obtain ⟨_, _, ⟨T213, L213, k213, n213⟩, -, X213, ⟨Lc213, hQ213, l213, y213, z213⟩, st213⟩ := X206.virtualBack hx (y := (⟨"com/example/usnea/usnea/datalog/IntList", "add", "(I)V"⟩ : MethodName)) (z := (⟨"com/example/usnea/usnea/datalog/IntList", "add", "(I)V"⟩ : MethodName)) hown (mvT hZ (hw _ (List.mem_of_getElem? (i := 38) rfl))) (mvT hZ (hw _ (List.mem_of_getElem? (i := 39) rfl))) (notFace_of_selects (args := #[]) (mvT hZ (hw _ (List.mem_of_getElem? (i := 41) rfl)))) (mvT hZ (hw _ (List.mem_of_getElem? (i := 41) rfl))) (mvT hZ (hw _ (List.mem_of_getElem? (i := 40) rfl))) (by decide) (backOf (W := 0) (rm_add_2 l Z a0 hw [] a186 p3 b190 k190 p1 p2 T206.heap n0 Z212 f207 f208 f209 f210 f211 ge_a186 ge_b190 ne197) hZ (hw _ (List.mem_of_getElem? (i := 42) rfl)) (hw _ (List.mem_of_getElem? (i := 4) rfl)) (by decide) (by decide)) q213a q213c (g := (mkF m 56 #[.val (.int p0), .val (.int p1), .val (.int p2), .val (.int p3), .val (.int p4), .val (.int p5), .val (.int (5 : Int32)), .val (.int ff), .val (.ref a186), .unset, .unset] [(.int p3), (.ref a186)])) rfl (by rw [hml]; rfl) (Steps.refl _) (argsL := [(.int p3)]) (rest := []) (lenOf own_pd__28_I_29_V rfl) rfl (by show 2 * 0 + _ ≤ _; exact Nat.le_of_eq rfl) (hb hby at_56) (fun _ _ => ⟨rfl, rfl, (by decide : 2 + 0 ≤ _), (by decide : 6 + 0 ≤ _)⟩)
    dsimp only [Pt.U, Pt.locs, Pt.cells, Pt.slots] at X213 l213 y213 z213 st213 hQ213
    rw [l213, y213, z213] at X213
    obtain ⟨rfl, Nq213, K213, f214, f215, f216, f217, f218⟩ := hQ213
    have N213 := Fr.app N206 Nq213
    refine own_Goes.tr st213 ?_
    have Z219 : n0 ≤ T213.heap.size := Nat.le_trans Z212 K213.1
    show own_Goes p.tables e below P (T213.setTop (mkF m 59 #[.val (.int p0), .val (.int p1), .val (.int p2), .val (.int p3), .val (.int p4), .val (.int p5), .val (.int (5 : Int32)), .val (.int ff), .val (.ref a186), .unset, .unset] []))
    refine own_Goes.st ?_ (fun _ k => XS.iload X213.here hx rfl (hb hby at_59) rfl k)
    show own_Goes p.tables e below P (T213.setTop (mkF m 61 #[.val (.int p0), .val (.int p1), .val (.int p2), .val (.int p3), .val (.int p4), .val (.int p5), .val (.int (5 : Int32)), .val (.int ff), .val (.ref a186), .unset, .unset] [(.int (5 : Int32))]))
    refine own_Goes.st ?_ (fun _ k => XS.iconst X213.here hx rfl (hb hby at_61) k)
    show own_Goes p.tables e below P (T213.setTop (mkF m 62 #[.val (.int p0), .val (.int p1), .val (.int p2), .val (.int p3), .val (.int p4), .val (.int p5), .val (.int (5 : Int32)), .val (.int ff), .val (.ref a186), .unset, .unset] [(.int (3 : Int32)), (.int (5 : Int32))]))
    refine own_Goes.st ?_ (fun _ k => XS.icmpNo X213.here hx rfl (hb hby at_62) rfl (tlt (by decide : (3 : Int32) < (5 : Int32))).2.2.2 k)
    show own_Goes p.tables e below P (T213.setTop (mkF m 65 #[.val (.int p0), .val (.int p1), .val (.int p2), .val (.int p3), .val (.int p4), .val (.int p5), .val (.int (5 : Int32)), .val (.int ff), .val (.ref a186), .unset, .unset] []))
    refine own_Goes.st ?_ (fun _ k => XS.aload X213.here hx rfl (hb hby at_65) rfl rfl k)
    show own_Goes p.tables e below P (T213.setTop (mkF m 67 #[.val (.int p0), .val (.int p1), .val (.int p2), .val (.int p3), .val (.int p4), .val (.int p5), .val (.int (5 : Int32)), .val (.int ff), .val (.ref a186), .unset, .unset] [(.ref a186)]))
    refine own_Goes.st ?_ (fun _ k => XS.iload X213.here hx rfl (hb hby at_67) rfl k)
    show own_Goes p.tables e below P (T213.setTop (mkF m 69 #[.val (.int p0), .val (.int p1), .val (.int p2), .val (.int p3), .val (.int p4), .val (.int p5), .val (.int (5 : Int32)), .val (.int ff), .val (.ref a186), .unset, .unset] [(.int p4), (.ref a186)]))
    obtain ⟨cq220, kq220, q220a, q220b, q220c⟩ := isOf hZ rfl f214
    obtain ⟨_, _, ⟨T220, L220, k220, n220⟩, -, X220, ⟨Lc220, hQ220, l220, y220, z220⟩, st220⟩ := X213.virtualBack hx (y := (⟨"com/example/usnea/usnea/datalog/IntList", "add", "(I)V"⟩ : MethodName)) (z := (⟨"com/example/usnea/usnea/datalog/IntList", "add", "(I)V"⟩ : MethodName)) hown (mvT hZ (hw _ (List.mem_of_getElem? (i := 38) rfl))) (mvT hZ (hw _ (List.mem_of_getElem? (i := 39) rfl))) (notFace_of_selects (args := #[]) (mvT hZ (hw _ (List.mem_of_getElem? (i := 41) rfl)))) (mvT hZ (hw _ (List.mem_of_getElem? (i := 41) rfl))) (mvT hZ (hw _ (List.mem_of_getElem? (i := 40) rfl))) (by decide) (backOf (W := 0) (rm_add_3 l Z a0 hw [] a186 p4 b190 k190 p1 p2 p3 T213.heap n0 Z219 f214 f215 f216 f217 f218 ge_a186 ge_b190 ne197) hZ (hw _ (List.mem_of_getElem? (i := 42) rfl)) (hw _ (List.mem_of_getElem? (i := 4) rfl)) (by decide) (by decide)) q220a q220c (g := (mkF m 69 #[.val (.int p0), .val (.int p1), .val (.int p2), .val (.int p3), .val (.int p4), .val (.int p5), .val (.int (5 : Int32)), .val (.int ff), .val (.ref a186), .unset, .unset] [(.int p4), (.ref a186)])) rfl (by rw [hml]; rfl) (Steps.refl _) (argsL := [(.int p4)]) (rest := []) (lenOf own_pd__28_I_29_V rfl) rfl (by show 2 * 0 + _ ≤ _; exact Nat.le_of_eq rfl) (hb hby at_69) (fun _ _ => ⟨rfl, rfl, (by decide : 2 + 0 ≤ _), (by decide : 6 + 0 ≤ _)⟩)
    dsimp only [Pt.U, Pt.locs, Pt.cells, Pt.slots] at X220 l220 y220 z220 st220 hQ220
    rw [l220, y220, z220] at X220
    obtain ⟨rfl, Nq220, K220, f221, f222, f223, f224, f225⟩ := hQ220
    have N220 := Fr.app N213 Nq220
    refine own_Goes.tr st220 ?_
    have Z226 : n0 ≤ T220.heap.size := Nat.le_trans Z219 K220.1
    show own_Goes p.tables e below P (T220.setTop (mkF m 72 #[.val (.int p0), .val (.int p1), .val (.int p2), .val (.int p3), .val (.int p4), .val (.int p5), .val (.int (5 : Int32)), .val (.int ff), .val (.ref a186), .unset, .unset] []))
    refine own_Goes.st ?_ (fun _ k => XS.iload X220.here hx rfl (hb hby at_72) rfl k)
    show own_Goes p.tables e below P (T220.setTop (mkF m 74 #[.val (.int p0), .val (.int p1), .val (.int p2), .val (.int p3), .val (.int p4), .val (.int p5), .val (.int (5 : Int32)), .val (.int ff), .val (.ref a186), .unset, .unset] [(.int (5 : Int32))]))
    refine own_Goes.st ?_ (fun _ k => XS.iconst X220.here hx rfl (hb hby at_74) k)
    show own_Goes p.tables e below P (T220.setTop (mkF m 75 #[.val (.int p0), .val (.int p1), .val (.int p2), .val (.int p3), .val (.int p4), .val (.int p5), .val (.int (5 : Int32)), .val (.int ff), .val (.ref a186), .unset, .unset] [(.int (4 : Int32)), (.int (5 : Int32))]))
    refine own_Goes.st ?_ (fun _ k => XS.icmpNo X220.here hx rfl (hb hby at_75) rfl (tlt (by decide : (4 : Int32) < (5 : Int32))).2.2.2 k)
    show own_Goes p.tables e below P (T220.setTop (mkF m 78 #[.val (.int p0), .val (.int p1), .val (.int p2), .val (.int p3), .val (.int p4), .val (.int p5), .val (.int (5 : Int32)), .val (.int ff), .val (.ref a186), .unset, .unset] []))
    refine own_Goes.st ?_ (fun _ k => XS.aload X220.here hx rfl (hb hby at_78) rfl rfl k)
    show own_Goes p.tables e below P (T220.setTop (mkF m 80 #[.val (.int p0), .val (.int p1), .val (.int p2), .val (.int p3), .val (.int p4), .val (.int p5), .val (.int (5 : Int32)), .val (.int ff), .val (.ref a186), .unset, .unset] [(.ref a186)]))
    refine own_Goes.st ?_ (fun _ k => XS.iload X220.here hx rfl (hb hby at_80) rfl k)
    show own_Goes p.tables e below P (T220.setTop (mkF m 82 #[.val (.int p0), .val (.int p1), .val (.int p2), .val (.int p3), .val (.int p4), .val (.int p5), .val (.int (5 : Int32)), .val (.int ff), .val (.ref a186), .unset, .unset] [(.int p5), (.ref a186)]))
    obtain ⟨cq227, kq227, q227a, q227b, q227c⟩ := isOf hZ rfl f221
    obtain ⟨_, _, ⟨T227, L227, k227, n227⟩, -, X227, ⟨Lc227, hQ227, l227, y227, z227⟩, st227⟩ := X220.virtualBack hx (y := (⟨"com/example/usnea/usnea/datalog/IntList", "add", "(I)V"⟩ : MethodName)) (z := (⟨"com/example/usnea/usnea/datalog/IntList", "add", "(I)V"⟩ : MethodName)) hown (mvT hZ (hw _ (List.mem_of_getElem? (i := 38) rfl))) (mvT hZ (hw _ (List.mem_of_getElem? (i := 39) rfl))) (notFace_of_selects (args := #[]) (mvT hZ (hw _ (List.mem_of_getElem? (i := 41) rfl)))) (mvT hZ (hw _ (List.mem_of_getElem? (i := 41) rfl))) (mvT hZ (hw _ (List.mem_of_getElem? (i := 40) rfl))) (by decide) (backOf (W := 0) (rm_add_4 l Z a0 hw [] a186 p5 b190 k190 p1 p2 p3 p4 T220.heap n0 Z226 f221 f222 f223 f224 f225 ge_a186 ge_b190 ne197) hZ (hw _ (List.mem_of_getElem? (i := 42) rfl)) (hw _ (List.mem_of_getElem? (i := 4) rfl)) (by decide) (by decide)) q227a q227c (g := (mkF m 82 #[.val (.int p0), .val (.int p1), .val (.int p2), .val (.int p3), .val (.int p4), .val (.int p5), .val (.int (5 : Int32)), .val (.int ff), .val (.ref a186), .unset, .unset] [(.int p5), (.ref a186)])) rfl (by rw [hml]; rfl) (Steps.refl _) (argsL := [(.int p5)]) (rest := []) (lenOf own_pd__28_I_29_V rfl) rfl (by show 2 * 0 + _ ≤ _; exact Nat.le_of_eq rfl) (hb hby at_82) (fun _ _ => ⟨rfl, rfl, (by decide : 2 + 1 ≤ _), (by decide : 6 + 8 ≤ _)⟩)
    dsimp only [Pt.U, Pt.locs, Pt.cells, Pt.slots] at X227 l227 y227 z227 st227 hQ227
    rw [l227, y227, z227] at X227
    obtain ⟨b2227, k2227, rfl, Nq227, K227, f228, f229, f230, f231, f232, f233⟩ := hQ227
    have N227 := Fr.app N220 Nq227
    refine own_Goes.tr st227 ?_
    have ne234 : a186 ≠ b2227 := Nat.ne_of_lt (Nat.lt_of_lt_of_le f221.lt f231)
    have ne235 : b190 ≠ b2227 := Nat.ne_of_lt (Nat.lt_of_lt_of_le f225.lt f231)
    have ge_b2227 : n0 ≤ b2227 := Nat.le_trans Z226 f231
    have Z236 : n0 ≤ T227.heap.size := Nat.le_trans Z226 K227.1
    show own_Goes p.tables e below P (T227.setTop (mkF m 85 #[.val (.int p0), .val (.int p1), .val (.int p2), .val (.int p3), .val (.int p4), .val (.int p5), .val (.int (5 : Int32)), .val (.int ff), .val (.ref a186), .unset, .unset] []))
    refine own_Goes.st ?_ (fun _ k => XS.iload X227.here hx rfl (hb hby at_85) rfl k)
    show own_Goes p.tables e below P (T227.setTop (mkF m 87 #[.val (.int p0), .val (.int p1), .val (.int p2), .val (.int p3), .val (.int p4), .val (.int p5), .val (.int (5 : Int32)), .val (.int ff), .val (.ref a186), .unset, .unset] [(.int (5 : Int32))]))
    refine own_Goes.st ?_ (fun _ k => XS.iconst X227.here hx rfl (hb hby at_87) k)
    show own_Goes p.tables e below P (T227.setTop (mkF m 88 #[.val (.int p0), .val (.int p1), .val (.int p2), .val (.int p3), .val (.int p4), .val (.int p5), .val (.int (5 : Int32)), .val (.int ff), .val (.ref a186), .unset, .unset] [(.int (5 : Int32)), (.int (5 : Int32))]))
    refine own_Goes.st ?_ (fun _ k => XS.icmpYes X227.here hx rfl (pc0 := 88) (pc' := 98) rfl (hb hby at_88) rfl (flt (by decide : ¬ ((5 : Int32) < (5 : Int32)))).2.2.2 (by decide) (by decide) k)
    show own_Goes p.tables e below P (T227.setTop (mkF m 98 #[.val (.int p0), .val (.int p1), .val (.int p2), .val (.int p3), .val (.int p4), .val (.int p5), .val (.int (5 : Int32)), .val (.int ff), .val (.ref a186), .unset, .unset] []))
    refine own_Goes.st ?_ (fun _ k => XS.aload X227.here hx rfl (hb hby at_98) rfl rfl k)
    show own_Goes p.tables e below P (T227.setTop (mkF m 100 #[.val (.int p0), .val (.int p1), .val (.int p2), .val (.int p3), .val (.int p4), .val (.int p5), .val (.int (5 : Int32)), .val (.int ff), .val (.ref a186), .unset, .unset] [(.ref a186)]))
    obtain ⟨cq237, kq237, q237a, q237b, q237c⟩ := isOf hZ rfl f228
    obtain ⟨_, _, ⟨T237, L237, k237, n237⟩, -, X237, ⟨Lc237, hQ237, l237, y237, z237⟩, st237⟩ := X227.virtualBack hx (y := (⟨"com/example/usnea/usnea/datalog/IntList", "size", "()I"⟩ : MethodName)) (z := (⟨"com/example/usnea/usnea/datalog/IntList", "size", "()I"⟩ : MethodName)) hown (mvT hZ (hw _ (List.mem_of_getElem? (i := 14) rfl))) (mvT hZ (hw _ (List.mem_of_getElem? (i := 15) rfl))) (notFace_of_selects (args := #[]) (mvT hZ (hw _ (List.mem_of_getElem? (i := 17) rfl)))) (mvT hZ (hw _ (List.mem_of_getElem? (i := 17) rfl))) (mvT hZ (hw _ (List.mem_of_getElem? (i := 16) rfl))) (by decide) (backOf (W := 0) (rm_size l Z a0 hw [] a186 (5 : Int32) T227.heap n0 Z236 f230) hZ (hw _ (List.mem_of_getElem? (i := 18) rfl)) (hw _ (List.mem_of_getElem? (i := 4) rfl)) (by decide) (by decide)) q237a q237c (g := (mkF m 100 #[.val (.int p0), .val (.int p1), .val (.int p2), .val (.int p3), .val (.int p4), .val (.int p5), .val (.int (5 : Int32)), .val (.int ff), .val (.ref a186), .unset, .unset] [(.ref a186)])) rfl (by rw [hml]; rfl) (Steps.refl _) (argsL := []) (rest := []) (lenOf own_pd__28__29_I rfl) rfl (by show 2 * 0 + _ ≤ _; exact Nat.le_of_eq rfl) (hb hby at_100) (fun _ _ => ⟨rfl, rfl, (by decide : 3 + 0 ≤ _), (by decide : 14 + 0 ≤ _)⟩)
    dsimp only [Pt.U, Pt.locs, Pt.cells, Pt.slots] at X237 l237 y237 z237 st237 hQ237
    rw [l237, y237, z237] at X237
    obtain ⟨rfl, Nq237, e237⟩ := hQ237
    have N237 := Fr.app N227 Nq237
    refine own_Goes.tr st237 ?_
    show own_Goes p.tables e below P (T237.setTop (mkF m 103 #[.val (.int p0), .val (.int p1), .val (.int p2), .val (.int p3), .val (.int p4), .val (.int p5), .val (.int (5 : Int32)), .val (.int ff), .val (.ref a186), .unset, .unset] [(.int (5 : Int32))]))
    refine own_Goes.st ?_ (fun _ k => XS.iload X237.here hx rfl (hb hby at_103) rfl k)
    show own_Goes p.tables e below P (T237.setTop (mkF m 105 #[.val (.int p0), .val (.int p1), .val (.int p2), .val (.int p3), .val (.int p4), .val (.int p5), .val (.int (5 : Int32)), .val (.int ff), .val (.ref a186), .unset, .unset] [(.int (5 : Int32)), (.int (5 : Int32))]))
    refine own_Goes.st ?_ (fun _ k => XS.icmpYes X237.here hx rfl (pc0 := 105) (pc' := 110) rfl (hb hby at_105) rfl (teq (by decide : (5 : Int32) = (5 : Int32))).1 (by decide) (by decide) k)
    show own_Goes p.tables e below P (T237.setTop (mkF m 110 #[.val (.int p0), .val (.int p1), .val (.int p2), .val (.int p3), .val (.int p4), .val (.int p5), .val (.int (5 : Int32)), .val (.int ff), .val (.ref a186), .unset, .unset] []))
    refine own_Goes.st ?_ (fun _ k => XS.aload X237.here hx rfl (hb hby at_110) rfl rfl k)
    show own_Goes p.tables e below P (T237.setTop (mkF m 112 #[.val (.int p0), .val (.int p1), .val (.int p2), .val (.int p3), .val (.int p4), .val (.int p5), .val (.int (5 : Int32)), .val (.int ff), .val (.ref a186), .unset, .unset] [(.ref a186)]))
    obtain ⟨cq238, kq238, q238a, q238b, q238c⟩ := isOf hZ e237 f228
    obtain ⟨_, _, ⟨T238, L238, k238, n238⟩, -, X238, ⟨Lc238, hQ238, l238, y238, z238⟩, st238⟩ := X237.virtualBack hx (y := (⟨"com/example/usnea/usnea/datalog/IntList", "toArray", "()[I"⟩ : MethodName)) (z := (⟨"com/example/usnea/usnea/datalog/IntList", "toArray", "()[I"⟩ : MethodName)) hown (mvT hZ (hw _ (List.mem_of_getElem? (i := 21) rfl))) (mvT hZ (hw _ (List.mem_of_getElem? (i := 22) rfl))) (notFace_of_selects (args := #[]) (mvT hZ (hw _ (List.mem_of_getElem? (i := 24) rfl)))) (mvT hZ (hw _ (List.mem_of_getElem? (i := 24) rfl))) (mvT hZ (hw _ (List.mem_of_getElem? (i := 23) rfl))) (by decide) (backOf (W := 0) (rm_toarr_5 l Z a0 hw [] a186 b2227 k2227 p1 p2 p3 p4 p5 T227.heap n0 Z236 f229 f230 f232 f233) hZ (hw _ (List.mem_of_getElem? (i := 25) rfl)) (hw _ (List.mem_of_getElem? (i := 4) rfl)) (by decide) (by decide)) q238a q238c (g := (mkF m 112 #[.val (.int p0), .val (.int p1), .val (.int p2), .val (.int p3), .val (.int p4), .val (.int p5), .val (.int (5 : Int32)), .val (.int ff), .val (.ref a186), .unset, .unset] [(.ref a186)])) rfl (by rw [hml]; rfl) (Steps.refl _) (argsL := []) (rest := []) (lenOf own_pd__28__29__5b_I rfl) rfl (by show 2 * 0 + _ ≤ _; exact Nat.le_of_eq rfl) (hb hby at_112) (fun _ _ => ⟨rfl, e237, (by decide : 3 + 1 ≤ _), (by decide : 14 + 5 ≤ _)⟩)
    dsimp only [Pt.U, Pt.locs, Pt.cells, Pt.slots] at X238 l238 y238 z238 st238 hQ238
    rw [l238, y238, z238] at X238
    obtain ⟨r238, q238, rfl, Nq238, K238, f239, f240⟩ := hQ238
    have N238 := Fr.app N237 Nq238
    refine own_Goes.tr st238 ?_
    have ne241 : a186 ≠ r238 := Nat.ne_of_lt (Nat.lt_of_lt_of_le f228.lt f239)
    have F242 : Exa Z T227.heap b190 "[I" := (f225.keep K227)
    have ne243 : b190 ≠ r238 := Nat.ne_of_lt (Nat.lt_of_lt_of_le F242.lt f239)
    have ne244 : b2227 ≠ r238 := Nat.ne_of_lt (Nat.lt_of_lt_of_le f232.lt f239)
    have ge_r238 : n0 ≤ r238 := Nat.le_trans Z236 f239
    have Z245 : n0 ≤ T238.heap.size := Nat.le_trans Z236 K238.1
    show own_Goes p.tables e below P (T238.setTop (mkF m 115 #[.val (.int p0), .val (.int p1), .val (.int p2), .val (.int p3), .val (.int p4), .val (.int p5), .val (.int (5 : Int32)), .val (.int ff), .val (.ref a186), .unset, .unset] [(.ref r238)]))
    refine own_Goes.st ?_ (fun _ k => XS.astore X238.here hx rfl (hb hby at_115) rfl rfl (l' := #[.val (.int p0), .val (.int p1), .val (.int p2), .val (.int p3), .val (.int p4), .val (.int p5), .val (.int (5 : Int32)), .val (.int ff), .val (.ref a186), .val (.ref r238), .unset]) rfl k)
    show own_Goes p.tables e below P (T238.setTop (mkF m 117 #[.val (.int p0), .val (.int p1), .val (.int p2), .val (.int p3), .val (.int p4), .val (.int p5), .val (.int (5 : Int32)), .val (.int ff), .val (.ref a186), .val (.ref r238), .unset] []))
    refine own_Goes.st ?_ (fun _ k => XS.aload X238.here hx rfl (hb hby at_117) rfl rfl k)
    show own_Goes p.tables e below P (T238.setTop (mkF m 119 #[.val (.int p0), .val (.int p1), .val (.int p2), .val (.int p3), .val (.int p4), .val (.int p5), .val (.int (5 : Int32)), .val (.int ff), .val (.ref a186), .val (.ref r238), .unset] [(.ref r238)]))
    have Vc246 := f240
    obtain ⟨cl246, Ar246, qc246, S246, Nn246, Hs246, Gs246⟩ := Vc246
    refine own_Goes.st ?_ (X238.arraylength hx Ar246.1 (State.isArrayOf_alike hZ.alike Ar246.2.1) (g := (mkF m 119 #[.val (.int p0), .val (.int p1), .val (.int p2), .val (.int p3), .val (.int p4), .val (.int p5), .val (.int (5 : Int32)), .val (.int ff), .val (.ref a186), .val (.ref r238), .unset] [(.ref r238)])) rfl rfl (hb hby at_119))
    rw [len_of S246 Nn246]
    show own_Goes p.tables e below P (T238.setTop (mkF m 120 #[.val (.int p0), .val (.int p1), .val (.int p2), .val (.int p3), .val (.int p4), .val (.int p5), .val (.int (5 : Int32)), .val (.int ff), .val (.ref a186), .val (.ref r238), .unset] [(.int (5 : Int32))]))
    refine own_Goes.st ?_ (fun _ k => XS.iload X238.here hx rfl (hb hby at_120) rfl k)
    show own_Goes p.tables e below P (T238.setTop (mkF m 122 #[.val (.int p0), .val (.int p1), .val (.int p2), .val (.int p3), .val (.int p4), .val (.int p5), .val (.int (5 : Int32)), .val (.int ff), .val (.ref a186), .val (.ref r238), .unset] [(.int (5 : Int32)), (.int (5 : Int32))]))
    refine own_Goes.st ?_ (fun _ k => XS.icmpYes X238.here hx rfl (pc0 := 122) (pc' := 127) rfl (hb hby at_122) rfl (teq (by decide : (5 : Int32) = (5 : Int32))).1 (by decide) (by decide) k)
    show own_Goes p.tables e below P (T238.setTop (mkF m 127 #[.val (.int p0), .val (.int p1), .val (.int p2), .val (.int p3), .val (.int p4), .val (.int p5), .val (.int (5 : Int32)), .val (.int ff), .val (.ref a186), .val (.ref r238), .unset] []))
    refine own_Goes.st ?_ (fun _ k => XS.iconst X238.here hx rfl (hb hby at_127) k)
    show own_Goes p.tables e below P (T238.setTop (mkF m 128 #[.val (.int p0), .val (.int p1), .val (.int p2), .val (.int p3), .val (.int p4), .val (.int p5), .val (.int (5 : Int32)), .val (.int ff), .val (.ref a186), .val (.ref r238), .unset] [(.int (1 : Int32))]))
    refine own_Goes.st ?_ (fun _ k => XS.istore X238.here hx rfl (hb hby at_128) rfl (l' := #[.val (.int p0), .val (.int p1), .val (.int p2), .val (.int p3), .val (.int p4), .val (.int p5), .val (.int (5 : Int32)), .val (.int ff), .val (.ref a186), .val (.ref r238), .val (.int (1 : Int32))]) rfl k)
    show own_Goes p.tables e below P (T238.setTop (mkF m 130 #[.val (.int p0), .val (.int p1), .val (.int p2), .val (.int p3), .val (.int p4), .val (.int p5), .val (.int (5 : Int32)), .val (.int ff), .val (.ref a186), .val (.ref r238), .val (.int (1 : Int32))] []))
    refine own_Goes.st ?_ (fun _ k => XS.iload X238.here hx rfl (hb hby at_130) rfl k)
    show own_Goes p.tables e below P (T238.setTop (mkF m 132 #[.val (.int p0), .val (.int p1), .val (.int p2), .val (.int p3), .val (.int p4), .val (.int p5), .val (.int (5 : Int32)), .val (.int ff), .val (.ref a186), .val (.ref r238), .val (.int (1 : Int32))] [(.int (5 : Int32))]))
    refine own_Goes.st ?_ (fun _ k => XS.ifNo X238.here hx rfl (hb hby at_132) rfl ((if0 _ _).trans (tlt (by decide : (0 : Int32) < (5 : Int32))).2.2.2) k)
    show own_Goes p.tables e below P (T238.setTop (mkF m 135 #[.val (.int p0), .val (.int p1), .val (.int p2), .val (.int p3), .val (.int p4), .val (.int p5), .val (.int (5 : Int32)), .val (.int ff), .val (.ref a186), .val (.ref r238), .val (.int (1 : Int32))] []))
    refine own_Goes.st ?_ (fun _ k => XS.iload X238.here hx rfl (hb hby at_135) rfl k)
    show own_Goes p.tables e below P (T238.setTop (mkF m 137 #[.val (.int p0), .val (.int p1), .val (.int p2), .val (.int p3), .val (.int p4), .val (.int p5), .val (.int (5 : Int32)), .val (.int ff), .val (.ref a186), .val (.ref r238), .val (.int (1 : Int32))] [(.int (1 : Int32))]))
    refine own_Goes.st ?_ (fun _ k => XS.ifNo X238.here hx rfl (hb hby at_137) rfl ((if0 _ _).trans (feq (by decide : ¬ ((1 : Int32) = (0 : Int32)))).1) k)
    show own_Goes p.tables e below P (T238.setTop (mkF m 140 #[.val (.int p0), .val (.int p1), .val (.int p2), .val (.int p3), .val (.int p4), .val (.int p5), .val (.int (5 : Int32)), .val (.int ff), .val (.ref a186), .val (.ref r238), .val (.int (1 : Int32))] []))
    refine own_Goes.st ?_ (fun _ k => XS.aload X238.here hx rfl (hb hby at_140) rfl rfl k)
    show own_Goes p.tables e below P (T238.setTop (mkF m 142 #[.val (.int p0), .val (.int p1), .val (.int p2), .val (.int p3), .val (.int p4), .val (.int p5), .val (.int (5 : Int32)), .val (.int ff), .val (.ref a186), .val (.ref r238), .val (.int (1 : Int32))] [(.ref r238)]))
    refine own_Goes.st ?_ (fun _ k => XS.iconst X238.here hx rfl (hb hby at_142) k)
    show own_Goes p.tables e below P (T238.setTop (mkF m 143 #[.val (.int p0), .val (.int p1), .val (.int p2), .val (.int p3), .val (.int p4), .val (.int p5), .val (.int (5 : Int32)), .val (.int ff), .val (.ref a186), .val (.ref r238), .val (.int (1 : Int32))] [(.int (0 : Int32)), (.ref r238)]))
    have hin247 : ¬ ((0 : Int32) < 0 ∨ cl246.slots.size ≤ ((0 : Int32)).toNatClampNeg) := inb_of S246 ⟨by decide, by decide⟩
    refine own_Goes.st ?_ (X238.iaload hx (j := (0 : Int32)) (v := (.int p1)) Ar246.1 (State.isArrayOf_alike hZ.alike Ar246.2.1) Ar246.2.2 hin247 (Has.at Hs246 hin247 rfl) (g := (mkF m 143 #[.val (.int p0), .val (.int p1), .val (.int p2), .val (.int p3), .val (.int p4), .val (.int p5), .val (.int (5 : Int32)), .val (.int ff), .val (.ref a186), .val (.ref r238), .val (.int (1 : Int32))] [(.int (0 : Int32)), (.ref r238)])) rfl rfl (hb hby at_143))
    show own_Goes p.tables e below P (T238.setTop (mkF m 144 #[.val (.int p0), .val (.int p1), .val (.int p2), .val (.int p3), .val (.int p4), .val (.int p5), .val (.int (5 : Int32)), .val (.int ff), .val (.ref a186), .val (.ref r238), .val (.int (1 : Int32))] [(.int p1)]))
    refine own_Goes.st ?_ (fun _ k => XS.iloadN X238.here hx rfl (hb hby at_144) rfl k)
    show own_Goes p.tables e below P (T238.setTop (mkF m 145 #[.val (.int p0), .val (.int p1), .val (.int p2), .val (.int p3), .val (.int p4), .val (.int p5), .val (.int (5 : Int32)), .val (.int ff), .val (.ref a186), .val (.ref r238), .val (.int (1 : Int32))] [(.int p1), (.int p1)]))
    refine own_Goes.st ?_ (fun _ k => XS.icmpNo X238.here hx rfl (hb hby at_145) rfl (teq (rfl : p1 = p1)).2 k)
    show own_Goes p.tables e below P (T238.setTop (mkF m 148 #[.val (.int p0), .val (.int p1), .val (.int p2), .val (.int p3), .val (.int p4), .val (.int p5), .val (.int (5 : Int32)), .val (.int ff), .val (.ref a186), .val (.ref r238), .val (.int (1 : Int32))] []))
    refine own_Goes.st ?_ (fun _ k => XS.iconst X238.here hx rfl (hb hby at_148) k)
    show own_Goes p.tables e below P (T238.setTop (mkF m 149 #[.val (.int p0), .val (.int p1), .val (.int p2), .val (.int p3), .val (.int p4), .val (.int p5), .val (.int (5 : Int32)), .val (.int ff), .val (.ref a186), .val (.ref r238), .val (.int (1 : Int32))] [(.int (1 : Int32))]))
    refine own_Goes.st ?_ (fun _ k => XS.goto X238.here hx rfl (pc0 := 149) (pc' := 153) rfl (hb hby at_149) (by decide) (by decide) k)
    show own_Goes p.tables e below P (T238.setTop (mkF m 153 #[.val (.int p0), .val (.int p1), .val (.int p2), .val (.int p3), .val (.int p4), .val (.int p5), .val (.int (5 : Int32)), .val (.int ff), .val (.ref a186), .val (.ref r238), .val (.int (1 : Int32))] [(.int (1 : Int32))]))
    refine own_Goes.st ?_ (fun _ k => XS.istore X238.here hx rfl (hb hby at_153) rfl (l' := #[.val (.int p0), .val (.int p1), .val (.int p2), .val (.int p3), .val (.int p4), .val (.int p5), .val (.int (5 : Int32)), .val (.int ff), .val (.ref a186), .val (.ref r238), .val (.int (1 : Int32))]) rfl k)
    show own_Goes p.tables e below P (T238.setTop (mkF m 155 #[.val (.int p0), .val (.int p1), .val (.int p2), .val (.int p3), .val (.int p4), .val (.int p5), .val (.int (5 : Int32)), .val (.int ff), .val (.ref a186), .val (.ref r238), .val (.int (1 : Int32))] []))
    refine own_Goes.st ?_ (fun _ k => XS.iload X238.here hx rfl (hb hby at_155) rfl k)
    show own_Goes p.tables e below P (T238.setTop (mkF m 157 #[.val (.int p0), .val (.int p1), .val (.int p2), .val (.int p3), .val (.int p4), .val (.int p5), .val (.int (5 : Int32)), .val (.int ff), .val (.ref a186), .val (.ref r238), .val (.int (1 : Int32))] [(.int (5 : Int32))]))
    refine own_Goes.st ?_ (fun _ k => XS.iconst X238.here hx rfl (hb hby at_157) k)
    show own_Goes p.tables e below P (T238.setTop (mkF m 158 #[.val (.int p0), .val (.int p1), .val (.int p2), .val (.int p3), .val (.int p4), .val (.int p5), .val (.int (5 : Int32)), .val (.int ff), .val (.ref a186), .val (.ref r238), .val (.int (1 : Int32))] [(.int (1 : Int32)), (.int (5 : Int32))]))
    refine own_Goes.st ?_ (fun _ k => XS.icmpNo X238.here hx rfl (hb hby at_158) rfl (tlt (by decide : (1 : Int32) < (5 : Int32))).2.2.2 k)
    show own_Goes p.tables e below P (T238.setTop (mkF m 161 #[.val (.int p0), .val (.int p1), .val (.int p2), .val (.int p3), .val (.int p4), .val (.int p5), .val (.int (5 : Int32)), .val (.int ff), .val (.ref a186), .val (.ref r238), .val (.int (1 : Int32))] []))
    refine own_Goes.st ?_ (fun _ k => XS.iload X238.here hx rfl (hb hby at_161) rfl k)
    show own_Goes p.tables e below P (T238.setTop (mkF m 163 #[.val (.int p0), .val (.int p1), .val (.int p2), .val (.int p3), .val (.int p4), .val (.int p5), .val (.int (5 : Int32)), .val (.int ff), .val (.ref a186), .val (.ref r238), .val (.int (1 : Int32))] [(.int (1 : Int32))]))
    refine own_Goes.st ?_ (fun _ k => XS.ifNo X238.here hx rfl (hb hby at_163) rfl ((if0 _ _).trans (feq (by decide : ¬ ((1 : Int32) = (0 : Int32)))).1) k)
    show own_Goes p.tables e below P (T238.setTop (mkF m 166 #[.val (.int p0), .val (.int p1), .val (.int p2), .val (.int p3), .val (.int p4), .val (.int p5), .val (.int (5 : Int32)), .val (.int ff), .val (.ref a186), .val (.ref r238), .val (.int (1 : Int32))] []))
    refine own_Goes.st ?_ (fun _ k => XS.aload X238.here hx rfl (hb hby at_166) rfl rfl k)
    show own_Goes p.tables e below P (T238.setTop (mkF m 168 #[.val (.int p0), .val (.int p1), .val (.int p2), .val (.int p3), .val (.int p4), .val (.int p5), .val (.int (5 : Int32)), .val (.int ff), .val (.ref a186), .val (.ref r238), .val (.int (1 : Int32))] [(.ref r238)]))
    refine own_Goes.st ?_ (fun _ k => XS.iconst X238.here hx rfl (hb hby at_168) k)
    show own_Goes p.tables e below P (T238.setTop (mkF m 169 #[.val (.int p0), .val (.int p1), .val (.int p2), .val (.int p3), .val (.int p4), .val (.int p5), .val (.int (5 : Int32)), .val (.int ff), .val (.ref a186), .val (.ref r238), .val (.int (1 : Int32))] [(.int (1 : Int32)), (.ref r238)]))
    have hin248 : ¬ ((1 : Int32) < 0 ∨ cl246.slots.size ≤ ((1 : Int32)).toNatClampNeg) := inb_of S246 ⟨by decide, by decide⟩
    refine own_Goes.st ?_ (X238.iaload hx (j := (1 : Int32)) (v := (.int p2)) Ar246.1 (State.isArrayOf_alike hZ.alike Ar246.2.1) Ar246.2.2 hin248 (Has.at Hs246 hin248 rfl) (g := (mkF m 169 #[.val (.int p0), .val (.int p1), .val (.int p2), .val (.int p3), .val (.int p4), .val (.int p5), .val (.int (5 : Int32)), .val (.int ff), .val (.ref a186), .val (.ref r238), .val (.int (1 : Int32))] [(.int (1 : Int32)), (.ref r238)])) rfl rfl (hb hby at_169))
    show own_Goes p.tables e below P (T238.setTop (mkF m 170 #[.val (.int p0), .val (.int p1), .val (.int p2), .val (.int p3), .val (.int p4), .val (.int p5), .val (.int (5 : Int32)), .val (.int ff), .val (.ref a186), .val (.ref r238), .val (.int (1 : Int32))] [(.int p2)]))
    refine own_Goes.st ?_ (fun _ k => XS.iloadN X238.here hx rfl (hb hby at_170) rfl k)
    show own_Goes p.tables e below P (T238.setTop (mkF m 171 #[.val (.int p0), .val (.int p1), .val (.int p2), .val (.int p3), .val (.int p4), .val (.int p5), .val (.int (5 : Int32)), .val (.int ff), .val (.ref a186), .val (.ref r238), .val (.int (1 : Int32))] [(.int p2), (.int p2)]))
    refine own_Goes.st ?_ (fun _ k => XS.icmpNo X238.here hx rfl (hb hby at_171) rfl (teq (rfl : p2 = p2)).2 k)
    show own_Goes p.tables e below P (T238.setTop (mkF m 174 #[.val (.int p0), .val (.int p1), .val (.int p2), .val (.int p3), .val (.int p4), .val (.int p5), .val (.int (5 : Int32)), .val (.int ff), .val (.ref a186), .val (.ref r238), .val (.int (1 : Int32))] []))
    refine own_Goes.st ?_ (fun _ k => XS.iconst X238.here hx rfl (hb hby at_174) k)
    show own_Goes p.tables e below P (T238.setTop (mkF m 175 #[.val (.int p0), .val (.int p1), .val (.int p2), .val (.int p3), .val (.int p4), .val (.int p5), .val (.int (5 : Int32)), .val (.int ff), .val (.ref a186), .val (.ref r238), .val (.int (1 : Int32))] [(.int (1 : Int32))]))
    refine own_Goes.st ?_ (fun _ k => XS.goto X238.here hx rfl (pc0 := 175) (pc' := 179) rfl (hb hby at_175) (by decide) (by decide) k)
    show own_Goes p.tables e below P (T238.setTop (mkF m 179 #[.val (.int p0), .val (.int p1), .val (.int p2), .val (.int p3), .val (.int p4), .val (.int p5), .val (.int (5 : Int32)), .val (.int ff), .val (.ref a186), .val (.ref r238), .val (.int (1 : Int32))] [(.int (1 : Int32))]))
    refine own_Goes.st ?_ (fun _ k => XS.istore X238.here hx rfl (hb hby at_179) rfl (l' := #[.val (.int p0), .val (.int p1), .val (.int p2), .val (.int p3), .val (.int p4), .val (.int p5), .val (.int (5 : Int32)), .val (.int ff), .val (.ref a186), .val (.ref r238), .val (.int (1 : Int32))]) rfl k)
    show own_Goes p.tables e below P (T238.setTop (mkF m 181 #[.val (.int p0), .val (.int p1), .val (.int p2), .val (.int p3), .val (.int p4), .val (.int p5), .val (.int (5 : Int32)), .val (.int ff), .val (.ref a186), .val (.ref r238), .val (.int (1 : Int32))] []))
    refine own_Goes.st ?_ (fun _ k => XS.iload X238.here hx rfl (hb hby at_181) rfl k)
    show own_Goes p.tables e below P (T238.setTop (mkF m 183 #[.val (.int p0), .val (.int p1), .val (.int p2), .val (.int p3), .val (.int p4), .val (.int p5), .val (.int (5 : Int32)), .val (.int ff), .val (.ref a186), .val (.ref r238), .val (.int (1 : Int32))] [(.int (5 : Int32))]))
    refine own_Goes.st ?_ (fun _ k => XS.iconst X238.here hx rfl (hb hby at_183) k)
    show own_Goes p.tables e below P (T238.setTop (mkF m 184 #[.val (.int p0), .val (.int p1), .val (.int p2), .val (.int p3), .val (.int p4), .val (.int p5), .val (.int (5 : Int32)), .val (.int ff), .val (.ref a186), .val (.ref r238), .val (.int (1 : Int32))] [(.int (2 : Int32)), (.int (5 : Int32))]))
    refine own_Goes.st ?_ (fun _ k => XS.icmpNo X238.here hx rfl (hb hby at_184) rfl (tlt (by decide : (2 : Int32) < (5 : Int32))).2.2.2 k)
    show own_Goes p.tables e below P (T238.setTop (mkF m 187 #[.val (.int p0), .val (.int p1), .val (.int p2), .val (.int p3), .val (.int p4), .val (.int p5), .val (.int (5 : Int32)), .val (.int ff), .val (.ref a186), .val (.ref r238), .val (.int (1 : Int32))] []))
    refine own_Goes.st ?_ (fun _ k => XS.iload X238.here hx rfl (hb hby at_187) rfl k)
    show own_Goes p.tables e below P (T238.setTop (mkF m 189 #[.val (.int p0), .val (.int p1), .val (.int p2), .val (.int p3), .val (.int p4), .val (.int p5), .val (.int (5 : Int32)), .val (.int ff), .val (.ref a186), .val (.ref r238), .val (.int (1 : Int32))] [(.int (1 : Int32))]))
    refine own_Goes.st ?_ (fun _ k => XS.ifNo X238.here hx rfl (hb hby at_189) rfl ((if0 _ _).trans (feq (by decide : ¬ ((1 : Int32) = (0 : Int32)))).1) k)
    show own_Goes p.tables e below P (T238.setTop (mkF m 192 #[.val (.int p0), .val (.int p1), .val (.int p2), .val (.int p3), .val (.int p4), .val (.int p5), .val (.int (5 : Int32)), .val (.int ff), .val (.ref a186), .val (.ref r238), .val (.int (1 : Int32))] []))
    refine own_Goes.st ?_ (fun _ k => XS.aload X238.here hx rfl (hb hby at_192) rfl rfl k)
    show own_Goes p.tables e below P (T238.setTop (mkF m 194 #[.val (.int p0), .val (.int p1), .val (.int p2), .val (.int p3), .val (.int p4), .val (.int p5), .val (.int (5 : Int32)), .val (.int ff), .val (.ref a186), .val (.ref r238), .val (.int (1 : Int32))] [(.ref r238)]))
    refine own_Goes.st ?_ (fun _ k => XS.iconst X238.here hx rfl (hb hby at_194) k)
    show own_Goes p.tables e below P (T238.setTop (mkF m 195 #[.val (.int p0), .val (.int p1), .val (.int p2), .val (.int p3), .val (.int p4), .val (.int p5), .val (.int (5 : Int32)), .val (.int ff), .val (.ref a186), .val (.ref r238), .val (.int (1 : Int32))] [(.int (2 : Int32)), (.ref r238)]))
    have hin249 : ¬ ((2 : Int32) < 0 ∨ cl246.slots.size ≤ ((2 : Int32)).toNatClampNeg) := inb_of S246 ⟨by decide, by decide⟩
    refine own_Goes.st ?_ (X238.iaload hx (j := (2 : Int32)) (v := (.int p3)) Ar246.1 (State.isArrayOf_alike hZ.alike Ar246.2.1) Ar246.2.2 hin249 (Has.at Hs246 hin249 rfl) (g := (mkF m 195 #[.val (.int p0), .val (.int p1), .val (.int p2), .val (.int p3), .val (.int p4), .val (.int p5), .val (.int (5 : Int32)), .val (.int ff), .val (.ref a186), .val (.ref r238), .val (.int (1 : Int32))] [(.int (2 : Int32)), (.ref r238)])) rfl rfl (hb hby at_195))
    show own_Goes p.tables e below P (T238.setTop (mkF m 196 #[.val (.int p0), .val (.int p1), .val (.int p2), .val (.int p3), .val (.int p4), .val (.int p5), .val (.int (5 : Int32)), .val (.int ff), .val (.ref a186), .val (.ref r238), .val (.int (1 : Int32))] [(.int p3)]))
    refine own_Goes.st ?_ (fun _ k => XS.iloadN X238.here hx rfl (hb hby at_196) rfl k)
    show own_Goes p.tables e below P (T238.setTop (mkF m 197 #[.val (.int p0), .val (.int p1), .val (.int p2), .val (.int p3), .val (.int p4), .val (.int p5), .val (.int (5 : Int32)), .val (.int ff), .val (.ref a186), .val (.ref r238), .val (.int (1 : Int32))] [(.int p3), (.int p3)]))
    refine own_Goes.st ?_ (fun _ k => XS.icmpNo X238.here hx rfl (hb hby at_197) rfl (teq (rfl : p3 = p3)).2 k)
    show own_Goes p.tables e below P (T238.setTop (mkF m 200 #[.val (.int p0), .val (.int p1), .val (.int p2), .val (.int p3), .val (.int p4), .val (.int p5), .val (.int (5 : Int32)), .val (.int ff), .val (.ref a186), .val (.ref r238), .val (.int (1 : Int32))] []))
    refine own_Goes.st ?_ (fun _ k => XS.iconst X238.here hx rfl (hb hby at_200) k)
    show own_Goes p.tables e below P (T238.setTop (mkF m 201 #[.val (.int p0), .val (.int p1), .val (.int p2), .val (.int p3), .val (.int p4), .val (.int p5), .val (.int (5 : Int32)), .val (.int ff), .val (.ref a186), .val (.ref r238), .val (.int (1 : Int32))] [(.int (1 : Int32))]))
    refine own_Goes.st ?_ (fun _ k => XS.goto X238.here hx rfl (pc0 := 201) (pc' := 205) rfl (hb hby at_201) (by decide) (by decide) k)
    show own_Goes p.tables e below P (T238.setTop (mkF m 205 #[.val (.int p0), .val (.int p1), .val (.int p2), .val (.int p3), .val (.int p4), .val (.int p5), .val (.int (5 : Int32)), .val (.int ff), .val (.ref a186), .val (.ref r238), .val (.int (1 : Int32))] [(.int (1 : Int32))]))
    refine own_Goes.st ?_ (fun _ k => XS.istore X238.here hx rfl (hb hby at_205) rfl (l' := #[.val (.int p0), .val (.int p1), .val (.int p2), .val (.int p3), .val (.int p4), .val (.int p5), .val (.int (5 : Int32)), .val (.int ff), .val (.ref a186), .val (.ref r238), .val (.int (1 : Int32))]) rfl k)
    show own_Goes p.tables e below P (T238.setTop (mkF m 207 #[.val (.int p0), .val (.int p1), .val (.int p2), .val (.int p3), .val (.int p4), .val (.int p5), .val (.int (5 : Int32)), .val (.int ff), .val (.ref a186), .val (.ref r238), .val (.int (1 : Int32))] []))
    refine own_Goes.st ?_ (fun _ k => XS.iload X238.here hx rfl (hb hby at_207) rfl k)
    show own_Goes p.tables e below P (T238.setTop (mkF m 209 #[.val (.int p0), .val (.int p1), .val (.int p2), .val (.int p3), .val (.int p4), .val (.int p5), .val (.int (5 : Int32)), .val (.int ff), .val (.ref a186), .val (.ref r238), .val (.int (1 : Int32))] [(.int (5 : Int32))]))
    refine own_Goes.st ?_ (fun _ k => XS.iconst X238.here hx rfl (hb hby at_209) k)
    show own_Goes p.tables e below P (T238.setTop (mkF m 210 #[.val (.int p0), .val (.int p1), .val (.int p2), .val (.int p3), .val (.int p4), .val (.int p5), .val (.int (5 : Int32)), .val (.int ff), .val (.ref a186), .val (.ref r238), .val (.int (1 : Int32))] [(.int (3 : Int32)), (.int (5 : Int32))]))
    refine own_Goes.st ?_ (fun _ k => XS.icmpNo X238.here hx rfl (hb hby at_210) rfl (tlt (by decide : (3 : Int32) < (5 : Int32))).2.2.2 k)
    show own_Goes p.tables e below P (T238.setTop (mkF m 213 #[.val (.int p0), .val (.int p1), .val (.int p2), .val (.int p3), .val (.int p4), .val (.int p5), .val (.int (5 : Int32)), .val (.int ff), .val (.ref a186), .val (.ref r238), .val (.int (1 : Int32))] []))
    refine own_Goes.st ?_ (fun _ k => XS.iload X238.here hx rfl (hb hby at_213) rfl k)
    show own_Goes p.tables e below P (T238.setTop (mkF m 215 #[.val (.int p0), .val (.int p1), .val (.int p2), .val (.int p3), .val (.int p4), .val (.int p5), .val (.int (5 : Int32)), .val (.int ff), .val (.ref a186), .val (.ref r238), .val (.int (1 : Int32))] [(.int (1 : Int32))]))
    refine own_Goes.st ?_ (fun _ k => XS.ifNo X238.here hx rfl (hb hby at_215) rfl ((if0 _ _).trans (feq (by decide : ¬ ((1 : Int32) = (0 : Int32)))).1) k)
    show own_Goes p.tables e below P (T238.setTop (mkF m 218 #[.val (.int p0), .val (.int p1), .val (.int p2), .val (.int p3), .val (.int p4), .val (.int p5), .val (.int (5 : Int32)), .val (.int ff), .val (.ref a186), .val (.ref r238), .val (.int (1 : Int32))] []))
    refine own_Goes.st ?_ (fun _ k => XS.aload X238.here hx rfl (hb hby at_218) rfl rfl k)
    show own_Goes p.tables e below P (T238.setTop (mkF m 220 #[.val (.int p0), .val (.int p1), .val (.int p2), .val (.int p3), .val (.int p4), .val (.int p5), .val (.int (5 : Int32)), .val (.int ff), .val (.ref a186), .val (.ref r238), .val (.int (1 : Int32))] [(.ref r238)]))
    refine own_Goes.st ?_ (fun _ k => XS.iconst X238.here hx rfl (hb hby at_220) k)
    show own_Goes p.tables e below P (T238.setTop (mkF m 221 #[.val (.int p0), .val (.int p1), .val (.int p2), .val (.int p3), .val (.int p4), .val (.int p5), .val (.int (5 : Int32)), .val (.int ff), .val (.ref a186), .val (.ref r238), .val (.int (1 : Int32))] [(.int (3 : Int32)), (.ref r238)]))
    have hin250 : ¬ ((3 : Int32) < 0 ∨ cl246.slots.size ≤ ((3 : Int32)).toNatClampNeg) := inb_of S246 ⟨by decide, by decide⟩
    refine own_Goes.st ?_ (X238.iaload hx (j := (3 : Int32)) (v := (.int p4)) Ar246.1 (State.isArrayOf_alike hZ.alike Ar246.2.1) Ar246.2.2 hin250 (Has.at Hs246 hin250 rfl) (g := (mkF m 221 #[.val (.int p0), .val (.int p1), .val (.int p2), .val (.int p3), .val (.int p4), .val (.int p5), .val (.int (5 : Int32)), .val (.int ff), .val (.ref a186), .val (.ref r238), .val (.int (1 : Int32))] [(.int (3 : Int32)), (.ref r238)])) rfl rfl (hb hby at_221))
    show own_Goes p.tables e below P (T238.setTop (mkF m 222 #[.val (.int p0), .val (.int p1), .val (.int p2), .val (.int p3), .val (.int p4), .val (.int p5), .val (.int (5 : Int32)), .val (.int ff), .val (.ref a186), .val (.ref r238), .val (.int (1 : Int32))] [(.int p4)]))
    refine own_Goes.st ?_ (fun _ k => XS.iload X238.here hx rfl (hb hby at_222) rfl k)
    show own_Goes p.tables e below P (T238.setTop (mkF m 224 #[.val (.int p0), .val (.int p1), .val (.int p2), .val (.int p3), .val (.int p4), .val (.int p5), .val (.int (5 : Int32)), .val (.int ff), .val (.ref a186), .val (.ref r238), .val (.int (1 : Int32))] [(.int p4), (.int p4)]))
    refine own_Goes.st ?_ (fun _ k => XS.icmpNo X238.here hx rfl (hb hby at_224) rfl (teq (rfl : p4 = p4)).2 k)
    show own_Goes p.tables e below P (T238.setTop (mkF m 227 #[.val (.int p0), .val (.int p1), .val (.int p2), .val (.int p3), .val (.int p4), .val (.int p5), .val (.int (5 : Int32)), .val (.int ff), .val (.ref a186), .val (.ref r238), .val (.int (1 : Int32))] []))
    refine own_Goes.st ?_ (fun _ k => XS.iconst X238.here hx rfl (hb hby at_227) k)
    show own_Goes p.tables e below P (T238.setTop (mkF m 228 #[.val (.int p0), .val (.int p1), .val (.int p2), .val (.int p3), .val (.int p4), .val (.int p5), .val (.int (5 : Int32)), .val (.int ff), .val (.ref a186), .val (.ref r238), .val (.int (1 : Int32))] [(.int (1 : Int32))]))
    refine own_Goes.st ?_ (fun _ k => XS.goto X238.here hx rfl (pc0 := 228) (pc' := 232) rfl (hb hby at_228) (by decide) (by decide) k)
    show own_Goes p.tables e below P (T238.setTop (mkF m 232 #[.val (.int p0), .val (.int p1), .val (.int p2), .val (.int p3), .val (.int p4), .val (.int p5), .val (.int (5 : Int32)), .val (.int ff), .val (.ref a186), .val (.ref r238), .val (.int (1 : Int32))] [(.int (1 : Int32))]))
    refine own_Goes.st ?_ (fun _ k => XS.istore X238.here hx rfl (hb hby at_232) rfl (l' := #[.val (.int p0), .val (.int p1), .val (.int p2), .val (.int p3), .val (.int p4), .val (.int p5), .val (.int (5 : Int32)), .val (.int ff), .val (.ref a186), .val (.ref r238), .val (.int (1 : Int32))]) rfl k)
    show own_Goes p.tables e below P (T238.setTop (mkF m 234 #[.val (.int p0), .val (.int p1), .val (.int p2), .val (.int p3), .val (.int p4), .val (.int p5), .val (.int (5 : Int32)), .val (.int ff), .val (.ref a186), .val (.ref r238), .val (.int (1 : Int32))] []))
    refine own_Goes.st ?_ (fun _ k => XS.iload X238.here hx rfl (hb hby at_234) rfl k)
    show own_Goes p.tables e below P (T238.setTop (mkF m 236 #[.val (.int p0), .val (.int p1), .val (.int p2), .val (.int p3), .val (.int p4), .val (.int p5), .val (.int (5 : Int32)), .val (.int ff), .val (.ref a186), .val (.ref r238), .val (.int (1 : Int32))] [(.int (5 : Int32))]))
    refine own_Goes.st ?_ (fun _ k => XS.iconst X238.here hx rfl (hb hby at_236) k)
    show own_Goes p.tables e below P (T238.setTop (mkF m 237 #[.val (.int p0), .val (.int p1), .val (.int p2), .val (.int p3), .val (.int p4), .val (.int p5), .val (.int (5 : Int32)), .val (.int ff), .val (.ref a186), .val (.ref r238), .val (.int (1 : Int32))] [(.int (4 : Int32)), (.int (5 : Int32))]))
    refine own_Goes.st ?_ (fun _ k => XS.icmpNo X238.here hx rfl (hb hby at_237) rfl (tlt (by decide : (4 : Int32) < (5 : Int32))).2.2.2 k)
    show own_Goes p.tables e below P (T238.setTop (mkF m 240 #[.val (.int p0), .val (.int p1), .val (.int p2), .val (.int p3), .val (.int p4), .val (.int p5), .val (.int (5 : Int32)), .val (.int ff), .val (.ref a186), .val (.ref r238), .val (.int (1 : Int32))] []))
    refine own_Goes.st ?_ (fun _ k => XS.iload X238.here hx rfl (hb hby at_240) rfl k)
    show own_Goes p.tables e below P (T238.setTop (mkF m 242 #[.val (.int p0), .val (.int p1), .val (.int p2), .val (.int p3), .val (.int p4), .val (.int p5), .val (.int (5 : Int32)), .val (.int ff), .val (.ref a186), .val (.ref r238), .val (.int (1 : Int32))] [(.int (1 : Int32))]))
    refine own_Goes.st ?_ (fun _ k => XS.ifNo X238.here hx rfl (hb hby at_242) rfl ((if0 _ _).trans (feq (by decide : ¬ ((1 : Int32) = (0 : Int32)))).1) k)
    show own_Goes p.tables e below P (T238.setTop (mkF m 245 #[.val (.int p0), .val (.int p1), .val (.int p2), .val (.int p3), .val (.int p4), .val (.int p5), .val (.int (5 : Int32)), .val (.int ff), .val (.ref a186), .val (.ref r238), .val (.int (1 : Int32))] []))
    refine own_Goes.st ?_ (fun _ k => XS.aload X238.here hx rfl (hb hby at_245) rfl rfl k)
    show own_Goes p.tables e below P (T238.setTop (mkF m 247 #[.val (.int p0), .val (.int p1), .val (.int p2), .val (.int p3), .val (.int p4), .val (.int p5), .val (.int (5 : Int32)), .val (.int ff), .val (.ref a186), .val (.ref r238), .val (.int (1 : Int32))] [(.ref r238)]))
    refine own_Goes.st ?_ (fun _ k => XS.iconst X238.here hx rfl (hb hby at_247) k)
    show own_Goes p.tables e below P (T238.setTop (mkF m 248 #[.val (.int p0), .val (.int p1), .val (.int p2), .val (.int p3), .val (.int p4), .val (.int p5), .val (.int (5 : Int32)), .val (.int ff), .val (.ref a186), .val (.ref r238), .val (.int (1 : Int32))] [(.int (4 : Int32)), (.ref r238)]))
    have hin251 : ¬ ((4 : Int32) < 0 ∨ cl246.slots.size ≤ ((4 : Int32)).toNatClampNeg) := inb_of S246 ⟨by decide, by decide⟩
    refine own_Goes.st ?_ (X238.iaload hx (j := (4 : Int32)) (v := (.int p5)) Ar246.1 (State.isArrayOf_alike hZ.alike Ar246.2.1) Ar246.2.2 hin251 (Has.at Hs246 hin251 rfl) (g := (mkF m 248 #[.val (.int p0), .val (.int p1), .val (.int p2), .val (.int p3), .val (.int p4), .val (.int p5), .val (.int (5 : Int32)), .val (.int ff), .val (.ref a186), .val (.ref r238), .val (.int (1 : Int32))] [(.int (4 : Int32)), (.ref r238)])) rfl rfl (hb hby at_248))
    show own_Goes p.tables e below P (T238.setTop (mkF m 249 #[.val (.int p0), .val (.int p1), .val (.int p2), .val (.int p3), .val (.int p4), .val (.int p5), .val (.int (5 : Int32)), .val (.int ff), .val (.ref a186), .val (.ref r238), .val (.int (1 : Int32))] [(.int p5)]))
    refine own_Goes.st ?_ (fun _ k => XS.iload X238.here hx rfl (hb hby at_249) rfl k)
    show own_Goes p.tables e below P (T238.setTop (mkF m 251 #[.val (.int p0), .val (.int p1), .val (.int p2), .val (.int p3), .val (.int p4), .val (.int p5), .val (.int (5 : Int32)), .val (.int ff), .val (.ref a186), .val (.ref r238), .val (.int (1 : Int32))] [(.int p5), (.int p5)]))
    refine own_Goes.st ?_ (fun _ k => XS.icmpNo X238.here hx rfl (hb hby at_251) rfl (teq (rfl : p5 = p5)).2 k)
    show own_Goes p.tables e below P (T238.setTop (mkF m 254 #[.val (.int p0), .val (.int p1), .val (.int p2), .val (.int p3), .val (.int p4), .val (.int p5), .val (.int (5 : Int32)), .val (.int ff), .val (.ref a186), .val (.ref r238), .val (.int (1 : Int32))] []))
    refine own_Goes.st ?_ (fun _ k => XS.iconst X238.here hx rfl (hb hby at_254) k)
    show own_Goes p.tables e below P (T238.setTop (mkF m 255 #[.val (.int p0), .val (.int p1), .val (.int p2), .val (.int p3), .val (.int p4), .val (.int p5), .val (.int (5 : Int32)), .val (.int ff), .val (.ref a186), .val (.ref r238), .val (.int (1 : Int32))] [(.int (1 : Int32))]))
    refine own_Goes.st ?_ (fun _ k => XS.goto X238.here hx rfl (pc0 := 255) (pc' := 259) rfl (hb hby at_255) (by decide) (by decide) k)
    show own_Goes p.tables e below P (T238.setTop (mkF m 259 #[.val (.int p0), .val (.int p1), .val (.int p2), .val (.int p3), .val (.int p4), .val (.int p5), .val (.int (5 : Int32)), .val (.int ff), .val (.ref a186), .val (.ref r238), .val (.int (1 : Int32))] [(.int (1 : Int32))]))
    refine own_Goes.st ?_ (fun _ k => XS.istore X238.here hx rfl (hb hby at_259) rfl (l' := #[.val (.int p0), .val (.int p1), .val (.int p2), .val (.int p3), .val (.int p4), .val (.int p5), .val (.int (5 : Int32)), .val (.int ff), .val (.ref a186), .val (.ref r238), .val (.int (1 : Int32))]) rfl k)
    show own_Goes p.tables e below P (T238.setTop (mkF m 261 #[.val (.int p0), .val (.int p1), .val (.int p2), .val (.int p3), .val (.int p4), .val (.int p5), .val (.int (5 : Int32)), .val (.int ff), .val (.ref a186), .val (.ref r238), .val (.int (1 : Int32))] []))
    refine own_Goes.st ?_ (fun _ k => XS.iload X238.here hx rfl (hb hby at_261) rfl k)
    show own_Goes p.tables e below P (T238.setTop (mkF m 263 #[.val (.int p0), .val (.int p1), .val (.int p2), .val (.int p3), .val (.int p4), .val (.int p5), .val (.int (5 : Int32)), .val (.int ff), .val (.ref a186), .val (.ref r238), .val (.int (1 : Int32))] [(.int (5 : Int32))]))
    refine own_Goes.st ?_ (fun _ k => XS.iconst X238.here hx rfl (hb hby at_263) k)
    show own_Goes p.tables e below P (T238.setTop (mkF m 264 #[.val (.int p0), .val (.int p1), .val (.int p2), .val (.int p3), .val (.int p4), .val (.int p5), .val (.int (5 : Int32)), .val (.int ff), .val (.ref a186), .val (.ref r238), .val (.int (1 : Int32))] [(.int (5 : Int32)), (.int (5 : Int32))]))
    refine own_Goes.st ?_ (fun _ k => XS.icmpYes X238.here hx rfl (pc0 := 264) (pc' := 288) rfl (hb hby at_264) rfl (flt (by decide : ¬ ((5 : Int32) < (5 : Int32)))).2.2.2 (by decide) (by decide) k)
    show own_Goes p.tables e below P (T238.setTop (mkF m 288 #[.val (.int p0), .val (.int p1), .val (.int p2), .val (.int p3), .val (.int p4), .val (.int p5), .val (.int (5 : Int32)), .val (.int ff), .val (.ref a186), .val (.ref r238), .val (.int (1 : Int32))] []))
    refine own_Goes.st ?_ (fun _ k => XS.iload X238.here hx rfl (hb hby at_288) rfl k)
    show own_Goes p.tables e below P (T238.setTop (mkF m 290 #[.val (.int p0), .val (.int p1), .val (.int p2), .val (.int p3), .val (.int p4), .val (.int p5), .val (.int (5 : Int32)), .val (.int ff), .val (.ref a186), .val (.ref r238), .val (.int (1 : Int32))] [(.int (1 : Int32))]))
    obtain ⟨fs, hr, hrun, hended, hW, hsame⟩ := X238.leave (v := some (.int (1 : Int32))) (fun h => by rw [Bd.returns] at h; cases h)
    exact own_Goes.fin _ _ (retOut X238 hx (t := .boolean) Bd.returns rfl (Or.inl ⟨rfl, Or.inr (Or.inl rfl), _, rfl⟩) (hb hby at_290) hr) (hPP _ _ ⟨hrun, hended, _, _, rfl, (by show Q_law n0 _ _; exact ⟨rfl, N238⟩), ⟨_, rfl⟩, hW, hsame.mono (by decide) (by decide)⟩)
  · skip
    show own_Goes p.tables e below P (s₁.setTop (mkF m 15 #[.val (.int p0), .val (.int p1), .val (.int p2), .val (.int p3), .val (.int p4), .val (.int p5), .val (.int (6 : Int32)), .val (.int ff), .unset, .unset, .unset] []))
    obtain ⟨T252, h252, X252, e252, E252, A252, D252, -, st252⟩ := newO X0 hx hZ hown (hw _ (List.mem_of_getElem? (i := 2) rfl)) (hw _ (List.mem_of_getElem? (i := 3) rfl)) (hw _ (List.mem_of_getElem? (i := 4) rfl)) e0 (g := (mkF m 15 #[.val (.int p0), .val (.int p1), .val (.int p2), .val (.int p3), .val (.int p4), .val (.int p5), .val (.int (6 : Int32)), .val (.int ff), .unset, .unset, .unset] [])) rfl (hb hby at_15) (by decide) (by decide)
    obtain ⟨a252, g252⟩ : ∃ z, z = h0.size := ⟨_, rfl⟩
    rw [← g252] at A252 D252 st252
    have ge_a252 : n0 ≤ a252 := Nat.le_trans Z0 (Nat.le_of_eq g252.symm)
    refine own_Goes.st ?_ st252
    have Z253 : n0 ≤ h252.size := Nat.le_trans Z0 E252.1
    have F254 : Fld Z h252 a252 "com/example/usnea/usnea/datalog/IntList" "values" "[I" .null := D252 (Or.inl (hw _ (List.mem_of_getElem? (i := 13) rfl))) (ty := (.array .int)) (by decide)
    have F255 : Fld Z h252 a252 "com/example/usnea/usnea/datalog/IntList" "size" "I" (.int (0 : Int32)) := D252 (Or.inl (hw _ (List.mem_of_getElem? (i := 20) rfl))) (ty := .int) (by decide)
    show own_Goes p.tables e below P (T252.setTop (mkF m 18 #[.val (.int p0), .val (.int p1), .val (.int p2), .val (.int p3), .val (.int p4), .val (.int p5), .val (.int (6 : Int32)), .val (.int ff), .unset, .unset, .unset] [(.ref a252)]))
    refine own_Goes.st ?_ (fun _ k => XS.dup X252.here hx rfl (hb hby at_18) rfl rfl k)
    show own_Goes p.tables e below P (T252.setTop (mkF m 19 #[.val (.int p0), .val (.int p1), .val (.int p2), .val (.int p3), .val (.int p4), .val (.int p5), .val (.int (6 : Int32)), .val (.int ff), .unset, .unset, .unset] [(.ref a252), (.ref a252)]))
    obtain ⟨_, _, ⟨T256, L256, k256, n256⟩, -, X256, ⟨Lc256, hQ256, l256, y256, z256⟩, st256⟩ := X252.specialBack hx (y := (⟨"com/example/usnea/usnea/datalog/IntList", "<init>", "()V"⟩ : MethodName)) rfl hown (mvT hZ (hw _ (List.mem_of_getElem? (i := 5) rfl))) (mvT hZ (hw _ (List.mem_of_getElem? (i := 6) rfl))) (mvT hZ (hw _ (List.mem_of_getElem? (i := 7) rfl))) (by decide) (backOf (W := 1) (rm_ctor l Z a0 hw [] a252 .null h252 n0 Z253 A252 F254 F255 ge_a252) hZ (hw _ (List.mem_of_getElem? (i := 7) rfl)) (hw _ (List.mem_of_getElem? (i := 4) rfl)) (by decide) (by decide)) (g := (mkF m 19 #[.val (.int p0), .val (.int p1), .val (.int p2), .val (.int p3), .val (.int p4), .val (.int p5), .val (.int (6 : Int32)), .val (.int ff), .unset, .unset, .unset] [(.ref a252), (.ref a252)])) rfl (by rw [hml]; rfl) (Steps.refl _) (a := a252) (argsL := []) (rest := [(.ref a252)]) (lenOf own_pd__28__29_V rfl) rfl (by show 2 * 0 + _ ≤ _; exact Nat.le_of_eq rfl) (hb hby at_19) (fun _ _ => ⟨rfl, e252, (by decide : 1 + 1 ≤ _), (by decide : 2 + 4 ≤ _)⟩)
    dsimp only [Pt.U, Pt.locs, Pt.cells, Pt.slots] at X256 l256 y256 z256 st256 hQ256
    rw [l256, y256, z256] at X256
    obtain ⟨b256, k256, rfl, Nq256, K256, f257, f258, f259, f260, f261, f262⟩ := hQ256
    have N256 := Fr.app N0 Nq256
    refine own_Goes.tr st256 ?_
    have ne263 : a252 ≠ b256 := Nat.ne_of_lt (Nat.lt_of_lt_of_le A252.lt f260)
    have ge_b256 : n0 ≤ b256 := Nat.le_trans Z253 f260
    have Z264 : n0 ≤ T256.heap.size := Nat.le_trans Z253 K256.1
    show own_Goes p.tables e below P (T256.setTop (mkF m 22 #[.val (.int p0), .val (.int p1), .val (.int p2), .val (.int p3), .val (.int p4), .val (.int p5), .val (.int (6 : Int32)), .val (.int ff), .unset, .unset, .unset] [(.ref a252)]))
    refine own_Goes.st ?_ (fun _ k => XS.astore X256.here hx rfl (hb hby at_22) rfl rfl (l' := #[.val (.int p0), .val (.int p1), .val (.int p2), .val (.int p3), .val (.int p4), .val (.int p5), .val (.int (6 : Int32)), .val (.int ff), .val (.ref a252), .unset, .unset]) rfl k)
    show own_Goes p.tables e below P (T256.setTop (mkF m 24 #[.val (.int p0), .val (.int p1), .val (.int p2), .val (.int p3), .val (.int p4), .val (.int p5), .val (.int (6 : Int32)), .val (.int ff), .val (.ref a252), .unset, .unset] []))
    refine own_Goes.st ?_ (fun _ k => XS.iload X256.here hx rfl (hb hby at_24) rfl k)
    show own_Goes p.tables e below P (T256.setTop (mkF m 26 #[.val (.int p0), .val (.int p1), .val (.int p2), .val (.int p3), .val (.int p4), .val (.int p5), .val (.int (6 : Int32)), .val (.int ff), .val (.ref a252), .unset, .unset] [(.int (6 : Int32))]))
    refine own_Goes.st ?_ (fun _ k => XS.ifNo X256.here hx rfl (hb hby at_26) rfl ((if0 _ _).trans (tlt (by decide : (0 : Int32) < (6 : Int32))).2.2.2) k)
    show own_Goes p.tables e below P (T256.setTop (mkF m 29 #[.val (.int p0), .val (.int p1), .val (.int p2), .val (.int p3), .val (.int p4), .val (.int p5), .val (.int (6 : Int32)), .val (.int ff), .val (.ref a252), .unset, .unset] []))
    refine own_Goes.st ?_ (fun _ k => XS.aload X256.here hx rfl (hb hby at_29) rfl rfl k)
    show own_Goes p.tables e below P (T256.setTop (mkF m 31 #[.val (.int p0), .val (.int p1), .val (.int p2), .val (.int p3), .val (.int p4), .val (.int p5), .val (.int (6 : Int32)), .val (.int ff), .val (.ref a252), .unset, .unset] [(.ref a252)]))
    refine own_Goes.st ?_ (fun _ k => XS.iloadN X256.here hx rfl (hb hby at_31) rfl k)
    show own_Goes p.tables e below P (T256.setTop (mkF m 32 #[.val (.int p0), .val (.int p1), .val (.int p2), .val (.int p3), .val (.int p4), .val (.int p5), .val (.int (6 : Int32)), .val (.int ff), .val (.ref a252), .unset, .unset] [(.int p1), (.ref a252)]))
    obtain ⟨cq265, kq265, q265a, q265b, q265c⟩ := isOf hZ rfl f257
    obtain ⟨_, _, ⟨T265, L265, k265, n265⟩, -, X265, ⟨Lc265, hQ265, l265, y265, z265⟩, st265⟩ := X256.virtualBack hx (y := (⟨"com/example/usnea/usnea/datalog/IntList", "add", "(I)V"⟩ : MethodName)) (z := (⟨"com/example/usnea/usnea/datalog/IntList", "add", "(I)V"⟩ : MethodName)) hown (mvT hZ (hw _ (List.mem_of_getElem? (i := 38) rfl))) (mvT hZ (hw _ (List.mem_of_getElem? (i := 39) rfl))) (notFace_of_selects (args := #[]) (mvT hZ (hw _ (List.mem_of_getElem? (i := 41) rfl)))) (mvT hZ (hw _ (List.mem_of_getElem? (i := 41) rfl))) (mvT hZ (hw _ (List.mem_of_getElem? (i := 40) rfl))) (by decide) (backOf (W := 0) (rm_add_0 l Z a0 hw [] a252 p1 b256 k256 T256.heap n0 Z264 f257 f258 f259 f261 f262 ge_a252 ge_b256 ne263) hZ (hw _ (List.mem_of_getElem? (i := 42) rfl)) (hw _ (List.mem_of_getElem? (i := 4) rfl)) (by decide) (by decide)) q265a q265c (g := (mkF m 32 #[.val (.int p0), .val (.int p1), .val (.int p2), .val (.int p3), .val (.int p4), .val (.int p5), .val (.int (6 : Int32)), .val (.int ff), .val (.ref a252), .unset, .unset] [(.int p1), (.ref a252)])) rfl (by rw [hml]; rfl) (Steps.refl _) (argsL := [(.int p1)]) (rest := []) (lenOf own_pd__28_I_29_V rfl) rfl (by show 2 * 0 + _ ≤ _; exact Nat.le_of_eq rfl) (hb hby at_32) (fun _ _ => ⟨rfl, rfl, (by decide : 2 + 0 ≤ _), (by decide : 6 + 0 ≤ _)⟩)
    dsimp only [Pt.U, Pt.locs, Pt.cells, Pt.slots] at X265 l265 y265 z265 st265 hQ265
    rw [l265, y265, z265] at X265
    obtain ⟨rfl, Nq265, K265, f266, f267, f268, f269, f270⟩ := hQ265
    have N265 := Fr.app N256 Nq265
    refine own_Goes.tr st265 ?_
    have Z271 : n0 ≤ T265.heap.size := Nat.le_trans Z264 K265.1
    show own_Goes p.tables e below P (T265.setTop (mkF m 35 #[.val (.int p0), .val (.int p1), .val (.int p2), .val (.int p3), .val (.int p4), .val (.int p5), .val (.int (6 : Int32)), .val (.int ff), .val (.ref a252), .unset, .unset] []))
    refine own_Goes.st ?_ (fun _ k => XS.iload X265.here hx rfl (hb hby at_35) rfl k)
    show own_Goes p.tables e below P (T265.setTop (mkF m 37 #[.val (.int p0), .val (.int p1), .val (.int p2), .val (.int p3), .val (.int p4), .val (.int p5), .val (.int (6 : Int32)), .val (.int ff), .val (.ref a252), .unset, .unset] [(.int (6 : Int32))]))
    refine own_Goes.st ?_ (fun _ k => XS.iconst X265.here hx rfl (hb hby at_37) k)
    show own_Goes p.tables e below P (T265.setTop (mkF m 38 #[.val (.int p0), .val (.int p1), .val (.int p2), .val (.int p3), .val (.int p4), .val (.int p5), .val (.int (6 : Int32)), .val (.int ff), .val (.ref a252), .unset, .unset] [(.int (1 : Int32)), (.int (6 : Int32))]))
    refine own_Goes.st ?_ (fun _ k => XS.icmpNo X265.here hx rfl (hb hby at_38) rfl (tlt (by decide : (1 : Int32) < (6 : Int32))).2.2.2 k)
    show own_Goes p.tables e below P (T265.setTop (mkF m 41 #[.val (.int p0), .val (.int p1), .val (.int p2), .val (.int p3), .val (.int p4), .val (.int p5), .val (.int (6 : Int32)), .val (.int ff), .val (.ref a252), .unset, .unset] []))
    refine own_Goes.st ?_ (fun _ k => XS.aload X265.here hx rfl (hb hby at_41) rfl rfl k)
    show own_Goes p.tables e below P (T265.setTop (mkF m 43 #[.val (.int p0), .val (.int p1), .val (.int p2), .val (.int p3), .val (.int p4), .val (.int p5), .val (.int (6 : Int32)), .val (.int ff), .val (.ref a252), .unset, .unset] [(.ref a252)]))
    refine own_Goes.st ?_ (fun _ k => XS.iloadN X265.here hx rfl (hb hby at_43) rfl k)
    show own_Goes p.tables e below P (T265.setTop (mkF m 44 #[.val (.int p0), .val (.int p1), .val (.int p2), .val (.int p3), .val (.int p4), .val (.int p5), .val (.int (6 : Int32)), .val (.int ff), .val (.ref a252), .unset, .unset] [(.int p2), (.ref a252)]))
    obtain ⟨cq272, kq272, q272a, q272b, q272c⟩ := isOf hZ rfl f266
    obtain ⟨_, _, ⟨T272, L272, k272, n272⟩, -, X272, ⟨Lc272, hQ272, l272, y272, z272⟩, st272⟩ := X265.virtualBack hx (y := (⟨"com/example/usnea/usnea/datalog/IntList", "add", "(I)V"⟩ : MethodName)) (z := (⟨"com/example/usnea/usnea/datalog/IntList", "add", "(I)V"⟩ : MethodName)) hown (mvT hZ (hw _ (List.mem_of_getElem? (i := 38) rfl))) (mvT hZ (hw _ (List.mem_of_getElem? (i := 39) rfl))) (notFace_of_selects (args := #[]) (mvT hZ (hw _ (List.mem_of_getElem? (i := 41) rfl)))) (mvT hZ (hw _ (List.mem_of_getElem? (i := 41) rfl))) (mvT hZ (hw _ (List.mem_of_getElem? (i := 40) rfl))) (by decide) (backOf (W := 0) (rm_add_1 l Z a0 hw [] a252 p2 b256 k256 p1 T265.heap n0 Z271 f266 f267 f268 f269 f270 ge_a252 ge_b256 ne263) hZ (hw _ (List.mem_of_getElem? (i := 42) rfl)) (hw _ (List.mem_of_getElem? (i := 4) rfl)) (by decide) (by decide)) q272a q272c (g := (mkF m 44 #[.val (.int p0), .val (.int p1), .val (.int p2), .val (.int p3), .val (.int p4), .val (.int p5), .val (.int (6 : Int32)), .val (.int ff), .val (.ref a252), .unset, .unset] [(.int p2), (.ref a252)])) rfl (by rw [hml]; rfl) (Steps.refl _) (argsL := [(.int p2)]) (rest := []) (lenOf own_pd__28_I_29_V rfl) rfl (by show 2 * 0 + _ ≤ _; exact Nat.le_of_eq rfl) (hb hby at_44) (fun _ _ => ⟨rfl, rfl, (by decide : 2 + 0 ≤ _), (by decide : 6 + 0 ≤ _)⟩)
    dsimp only [Pt.U, Pt.locs, Pt.cells, Pt.slots] at X272 l272 y272 z272 st272 hQ272
    rw [l272, y272, z272] at X272
    obtain ⟨rfl, Nq272, K272, f273, f274, f275, f276, f277⟩ := hQ272
    have N272 := Fr.app N265 Nq272
    refine own_Goes.tr st272 ?_
    have Z278 : n0 ≤ T272.heap.size := Nat.le_trans Z271 K272.1
    show own_Goes p.tables e below P (T272.setTop (mkF m 47 #[.val (.int p0), .val (.int p1), .val (.int p2), .val (.int p3), .val (.int p4), .val (.int p5), .val (.int (6 : Int32)), .val (.int ff), .val (.ref a252), .unset, .unset] []))
    refine own_Goes.st ?_ (fun _ k => XS.iload X272.here hx rfl (hb hby at_47) rfl k)
    show own_Goes p.tables e below P (T272.setTop (mkF m 49 #[.val (.int p0), .val (.int p1), .val (.int p2), .val (.int p3), .val (.int p4), .val (.int p5), .val (.int (6 : Int32)), .val (.int ff), .val (.ref a252), .unset, .unset] [(.int (6 : Int32))]))
    refine own_Goes.st ?_ (fun _ k => XS.iconst X272.here hx rfl (hb hby at_49) k)
    show own_Goes p.tables e below P (T272.setTop (mkF m 50 #[.val (.int p0), .val (.int p1), .val (.int p2), .val (.int p3), .val (.int p4), .val (.int p5), .val (.int (6 : Int32)), .val (.int ff), .val (.ref a252), .unset, .unset] [(.int (2 : Int32)), (.int (6 : Int32))]))
    refine own_Goes.st ?_ (fun _ k => XS.icmpNo X272.here hx rfl (hb hby at_50) rfl (tlt (by decide : (2 : Int32) < (6 : Int32))).2.2.2 k)
    show own_Goes p.tables e below P (T272.setTop (mkF m 53 #[.val (.int p0), .val (.int p1), .val (.int p2), .val (.int p3), .val (.int p4), .val (.int p5), .val (.int (6 : Int32)), .val (.int ff), .val (.ref a252), .unset, .unset] []))
    refine own_Goes.st ?_ (fun _ k => XS.aload X272.here hx rfl (hb hby at_53) rfl rfl k)
    show own_Goes p.tables e below P (T272.setTop (mkF m 55 #[.val (.int p0), .val (.int p1), .val (.int p2), .val (.int p3), .val (.int p4), .val (.int p5), .val (.int (6 : Int32)), .val (.int ff), .val (.ref a252), .unset, .unset] [(.ref a252)]))
    refine own_Goes.st ?_ (fun _ k => XS.iloadN X272.here hx rfl (hb hby at_55) rfl k)
    show own_Goes p.tables e below P (T272.setTop (mkF m 56 #[.val (.int p0), .val (.int p1), .val (.int p2), .val (.int p3), .val (.int p4), .val (.int p5), .val (.int (6 : Int32)), .val (.int ff), .val (.ref a252), .unset, .unset] [(.int p3), (.ref a252)]))
    obtain ⟨cq279, kq279, q279a, q279b, q279c⟩ := isOf hZ rfl f273
    obtain ⟨_, _, ⟨T279, L279, k279, n279⟩, -, X279, ⟨Lc279, hQ279, l279, y279, z279⟩, st279⟩ := X272.virtualBack hx (y := (⟨"com/example/usnea/usnea/datalog/IntList", "add", "(I)V"⟩ : MethodName)) (z := (⟨"com/example/usnea/usnea/datalog/IntList", "add", "(I)V"⟩ : MethodName)) hown (mvT hZ (hw _ (List.mem_of_getElem? (i := 38) rfl))) (mvT hZ (hw _ (List.mem_of_getElem? (i := 39) rfl))) (notFace_of_selects (args := #[]) (mvT hZ (hw _ (List.mem_of_getElem? (i := 41) rfl)))) (mvT hZ (hw _ (List.mem_of_getElem? (i := 41) rfl))) (mvT hZ (hw _ (List.mem_of_getElem? (i := 40) rfl))) (by decide) (backOf (W := 0) (rm_add_2 l Z a0 hw [] a252 p3 b256 k256 p1 p2 T272.heap n0 Z278 f273 f274 f275 f276 f277 ge_a252 ge_b256 ne263) hZ (hw _ (List.mem_of_getElem? (i := 42) rfl)) (hw _ (List.mem_of_getElem? (i := 4) rfl)) (by decide) (by decide)) q279a q279c (g := (mkF m 56 #[.val (.int p0), .val (.int p1), .val (.int p2), .val (.int p3), .val (.int p4), .val (.int p5), .val (.int (6 : Int32)), .val (.int ff), .val (.ref a252), .unset, .unset] [(.int p3), (.ref a252)])) rfl (by rw [hml]; rfl) (Steps.refl _) (argsL := [(.int p3)]) (rest := []) (lenOf own_pd__28_I_29_V rfl) rfl (by show 2 * 0 + _ ≤ _; exact Nat.le_of_eq rfl) (hb hby at_56) (fun _ _ => ⟨rfl, rfl, (by decide : 2 + 0 ≤ _), (by decide : 6 + 0 ≤ _)⟩)
    dsimp only [Pt.U, Pt.locs, Pt.cells, Pt.slots] at X279 l279 y279 z279 st279 hQ279
    rw [l279, y279, z279] at X279
    obtain ⟨rfl, Nq279, K279, f280, f281, f282, f283, f284⟩ := hQ279
    have N279 := Fr.app N272 Nq279
    refine own_Goes.tr st279 ?_
    have Z285 : n0 ≤ T279.heap.size := Nat.le_trans Z278 K279.1
    show own_Goes p.tables e below P (T279.setTop (mkF m 59 #[.val (.int p0), .val (.int p1), .val (.int p2), .val (.int p3), .val (.int p4), .val (.int p5), .val (.int (6 : Int32)), .val (.int ff), .val (.ref a252), .unset, .unset] []))
    refine own_Goes.st ?_ (fun _ k => XS.iload X279.here hx rfl (hb hby at_59) rfl k)
    show own_Goes p.tables e below P (T279.setTop (mkF m 61 #[.val (.int p0), .val (.int p1), .val (.int p2), .val (.int p3), .val (.int p4), .val (.int p5), .val (.int (6 : Int32)), .val (.int ff), .val (.ref a252), .unset, .unset] [(.int (6 : Int32))]))
    refine own_Goes.st ?_ (fun _ k => XS.iconst X279.here hx rfl (hb hby at_61) k)
    show own_Goes p.tables e below P (T279.setTop (mkF m 62 #[.val (.int p0), .val (.int p1), .val (.int p2), .val (.int p3), .val (.int p4), .val (.int p5), .val (.int (6 : Int32)), .val (.int ff), .val (.ref a252), .unset, .unset] [(.int (3 : Int32)), (.int (6 : Int32))]))
    refine own_Goes.st ?_ (fun _ k => XS.icmpNo X279.here hx rfl (hb hby at_62) rfl (tlt (by decide : (3 : Int32) < (6 : Int32))).2.2.2 k)
    show own_Goes p.tables e below P (T279.setTop (mkF m 65 #[.val (.int p0), .val (.int p1), .val (.int p2), .val (.int p3), .val (.int p4), .val (.int p5), .val (.int (6 : Int32)), .val (.int ff), .val (.ref a252), .unset, .unset] []))
    refine own_Goes.st ?_ (fun _ k => XS.aload X279.here hx rfl (hb hby at_65) rfl rfl k)
    show own_Goes p.tables e below P (T279.setTop (mkF m 67 #[.val (.int p0), .val (.int p1), .val (.int p2), .val (.int p3), .val (.int p4), .val (.int p5), .val (.int (6 : Int32)), .val (.int ff), .val (.ref a252), .unset, .unset] [(.ref a252)]))
    refine own_Goes.st ?_ (fun _ k => XS.iload X279.here hx rfl (hb hby at_67) rfl k)
    show own_Goes p.tables e below P (T279.setTop (mkF m 69 #[.val (.int p0), .val (.int p1), .val (.int p2), .val (.int p3), .val (.int p4), .val (.int p5), .val (.int (6 : Int32)), .val (.int ff), .val (.ref a252), .unset, .unset] [(.int p4), (.ref a252)]))
    obtain ⟨cq286, kq286, q286a, q286b, q286c⟩ := isOf hZ rfl f280
    obtain ⟨_, _, ⟨T286, L286, k286, n286⟩, -, X286, ⟨Lc286, hQ286, l286, y286, z286⟩, st286⟩ := X279.virtualBack hx (y := (⟨"com/example/usnea/usnea/datalog/IntList", "add", "(I)V"⟩ : MethodName)) (z := (⟨"com/example/usnea/usnea/datalog/IntList", "add", "(I)V"⟩ : MethodName)) hown (mvT hZ (hw _ (List.mem_of_getElem? (i := 38) rfl))) (mvT hZ (hw _ (List.mem_of_getElem? (i := 39) rfl))) (notFace_of_selects (args := #[]) (mvT hZ (hw _ (List.mem_of_getElem? (i := 41) rfl)))) (mvT hZ (hw _ (List.mem_of_getElem? (i := 41) rfl))) (mvT hZ (hw _ (List.mem_of_getElem? (i := 40) rfl))) (by decide) (backOf (W := 0) (rm_add_3 l Z a0 hw [] a252 p4 b256 k256 p1 p2 p3 T279.heap n0 Z285 f280 f281 f282 f283 f284 ge_a252 ge_b256 ne263) hZ (hw _ (List.mem_of_getElem? (i := 42) rfl)) (hw _ (List.mem_of_getElem? (i := 4) rfl)) (by decide) (by decide)) q286a q286c (g := (mkF m 69 #[.val (.int p0), .val (.int p1), .val (.int p2), .val (.int p3), .val (.int p4), .val (.int p5), .val (.int (6 : Int32)), .val (.int ff), .val (.ref a252), .unset, .unset] [(.int p4), (.ref a252)])) rfl (by rw [hml]; rfl) (Steps.refl _) (argsL := [(.int p4)]) (rest := []) (lenOf own_pd__28_I_29_V rfl) rfl (by show 2 * 0 + _ ≤ _; exact Nat.le_of_eq rfl) (hb hby at_69) (fun _ _ => ⟨rfl, rfl, (by decide : 2 + 0 ≤ _), (by decide : 6 + 0 ≤ _)⟩)
    dsimp only [Pt.U, Pt.locs, Pt.cells, Pt.slots] at X286 l286 y286 z286 st286 hQ286
    rw [l286, y286, z286] at X286
    obtain ⟨rfl, Nq286, K286, f287, f288, f289, f290, f291⟩ := hQ286
    have N286 := Fr.app N279 Nq286
    refine own_Goes.tr st286 ?_
    have Z292 : n0 ≤ T286.heap.size := Nat.le_trans Z285 K286.1
    show own_Goes p.tables e below P (T286.setTop (mkF m 72 #[.val (.int p0), .val (.int p1), .val (.int p2), .val (.int p3), .val (.int p4), .val (.int p5), .val (.int (6 : Int32)), .val (.int ff), .val (.ref a252), .unset, .unset] []))
    refine own_Goes.st ?_ (fun _ k => XS.iload X286.here hx rfl (hb hby at_72) rfl k)
    show own_Goes p.tables e below P (T286.setTop (mkF m 74 #[.val (.int p0), .val (.int p1), .val (.int p2), .val (.int p3), .val (.int p4), .val (.int p5), .val (.int (6 : Int32)), .val (.int ff), .val (.ref a252), .unset, .unset] [(.int (6 : Int32))]))
    refine own_Goes.st ?_ (fun _ k => XS.iconst X286.here hx rfl (hb hby at_74) k)
    show own_Goes p.tables e below P (T286.setTop (mkF m 75 #[.val (.int p0), .val (.int p1), .val (.int p2), .val (.int p3), .val (.int p4), .val (.int p5), .val (.int (6 : Int32)), .val (.int ff), .val (.ref a252), .unset, .unset] [(.int (4 : Int32)), (.int (6 : Int32))]))
    refine own_Goes.st ?_ (fun _ k => XS.icmpNo X286.here hx rfl (hb hby at_75) rfl (tlt (by decide : (4 : Int32) < (6 : Int32))).2.2.2 k)
    show own_Goes p.tables e below P (T286.setTop (mkF m 78 #[.val (.int p0), .val (.int p1), .val (.int p2), .val (.int p3), .val (.int p4), .val (.int p5), .val (.int (6 : Int32)), .val (.int ff), .val (.ref a252), .unset, .unset] []))
    refine own_Goes.st ?_ (fun _ k => XS.aload X286.here hx rfl (hb hby at_78) rfl rfl k)
    show own_Goes p.tables e below P (T286.setTop (mkF m 80 #[.val (.int p0), .val (.int p1), .val (.int p2), .val (.int p3), .val (.int p4), .val (.int p5), .val (.int (6 : Int32)), .val (.int ff), .val (.ref a252), .unset, .unset] [(.ref a252)]))
    refine own_Goes.st ?_ (fun _ k => XS.iload X286.here hx rfl (hb hby at_80) rfl k)
    show own_Goes p.tables e below P (T286.setTop (mkF m 82 #[.val (.int p0), .val (.int p1), .val (.int p2), .val (.int p3), .val (.int p4), .val (.int p5), .val (.int (6 : Int32)), .val (.int ff), .val (.ref a252), .unset, .unset] [(.int p5), (.ref a252)]))
    obtain ⟨cq293, kq293, q293a, q293b, q293c⟩ := isOf hZ rfl f287
    obtain ⟨_, _, ⟨T293, L293, k293, n293⟩, -, X293, ⟨Lc293, hQ293, l293, y293, z293⟩, st293⟩ := X286.virtualBack hx (y := (⟨"com/example/usnea/usnea/datalog/IntList", "add", "(I)V"⟩ : MethodName)) (z := (⟨"com/example/usnea/usnea/datalog/IntList", "add", "(I)V"⟩ : MethodName)) hown (mvT hZ (hw _ (List.mem_of_getElem? (i := 38) rfl))) (mvT hZ (hw _ (List.mem_of_getElem? (i := 39) rfl))) (notFace_of_selects (args := #[]) (mvT hZ (hw _ (List.mem_of_getElem? (i := 41) rfl)))) (mvT hZ (hw _ (List.mem_of_getElem? (i := 41) rfl))) (mvT hZ (hw _ (List.mem_of_getElem? (i := 40) rfl))) (by decide) (backOf (W := 0) (rm_add_4 l Z a0 hw [] a252 p5 b256 k256 p1 p2 p3 p4 T286.heap n0 Z292 f287 f288 f289 f290 f291 ge_a252 ge_b256 ne263) hZ (hw _ (List.mem_of_getElem? (i := 42) rfl)) (hw _ (List.mem_of_getElem? (i := 4) rfl)) (by decide) (by decide)) q293a q293c (g := (mkF m 82 #[.val (.int p0), .val (.int p1), .val (.int p2), .val (.int p3), .val (.int p4), .val (.int p5), .val (.int (6 : Int32)), .val (.int ff), .val (.ref a252), .unset, .unset] [(.int p5), (.ref a252)])) rfl (by rw [hml]; rfl) (Steps.refl _) (argsL := [(.int p5)]) (rest := []) (lenOf own_pd__28_I_29_V rfl) rfl (by show 2 * 0 + _ ≤ _; exact Nat.le_of_eq rfl) (hb hby at_82) (fun _ _ => ⟨rfl, rfl, (by decide : 2 + 1 ≤ _), (by decide : 6 + 8 ≤ _)⟩)
    dsimp only [Pt.U, Pt.locs, Pt.cells, Pt.slots] at X293 l293 y293 z293 st293 hQ293
    rw [l293, y293, z293] at X293
    obtain ⟨b2293, k2293, rfl, Nq293, K293, f294, f295, f296, f297, f298, f299⟩ := hQ293
    have N293 := Fr.app N286 Nq293
    refine own_Goes.tr st293 ?_
    have ne300 : a252 ≠ b2293 := Nat.ne_of_lt (Nat.lt_of_lt_of_le f287.lt f297)
    have ne301 : b256 ≠ b2293 := Nat.ne_of_lt (Nat.lt_of_lt_of_le f291.lt f297)
    have ge_b2293 : n0 ≤ b2293 := Nat.le_trans Z292 f297
    have Z302 : n0 ≤ T293.heap.size := Nat.le_trans Z292 K293.1
    show own_Goes p.tables e below P (T293.setTop (mkF m 85 #[.val (.int p0), .val (.int p1), .val (.int p2), .val (.int p3), .val (.int p4), .val (.int p5), .val (.int (6 : Int32)), .val (.int ff), .val (.ref a252), .unset, .unset] []))
    refine own_Goes.st ?_ (fun _ k => XS.iload X293.here hx rfl (hb hby at_85) rfl k)
    show own_Goes p.tables e below P (T293.setTop (mkF m 87 #[.val (.int p0), .val (.int p1), .val (.int p2), .val (.int p3), .val (.int p4), .val (.int p5), .val (.int (6 : Int32)), .val (.int ff), .val (.ref a252), .unset, .unset] [(.int (6 : Int32))]))
    refine own_Goes.st ?_ (fun _ k => XS.iconst X293.here hx rfl (hb hby at_87) k)
    show own_Goes p.tables e below P (T293.setTop (mkF m 88 #[.val (.int p0), .val (.int p1), .val (.int p2), .val (.int p3), .val (.int p4), .val (.int p5), .val (.int (6 : Int32)), .val (.int ff), .val (.ref a252), .unset, .unset] [(.int (5 : Int32)), (.int (6 : Int32))]))
    refine own_Goes.st ?_ (fun _ k => XS.icmpNo X293.here hx rfl (hb hby at_88) rfl (tlt (by decide : (5 : Int32) < (6 : Int32))).2.2.2 k)
    show own_Goes p.tables e below P (T293.setTop (mkF m 91 #[.val (.int p0), .val (.int p1), .val (.int p2), .val (.int p3), .val (.int p4), .val (.int p5), .val (.int (6 : Int32)), .val (.int ff), .val (.ref a252), .unset, .unset] []))
    refine own_Goes.st ?_ (fun _ k => XS.aload X293.here hx rfl (hb hby at_91) rfl rfl k)
    show own_Goes p.tables e below P (T293.setTop (mkF m 93 #[.val (.int p0), .val (.int p1), .val (.int p2), .val (.int p3), .val (.int p4), .val (.int p5), .val (.int (6 : Int32)), .val (.int ff), .val (.ref a252), .unset, .unset] [(.ref a252)]))
    refine own_Goes.st ?_ (fun _ k => XS.iload X293.here hx rfl (hb hby at_93) rfl k)
    show own_Goes p.tables e below P (T293.setTop (mkF m 95 #[.val (.int p0), .val (.int p1), .val (.int p2), .val (.int p3), .val (.int p4), .val (.int p5), .val (.int (6 : Int32)), .val (.int ff), .val (.ref a252), .unset, .unset] [(.int ff), (.ref a252)]))
    obtain ⟨cq303, kq303, q303a, q303b, q303c⟩ := isOf hZ rfl f294
    obtain ⟨_, _, ⟨T303, L303, k303, n303⟩, -, X303, ⟨Lc303, hQ303, l303, y303, z303⟩, st303⟩ := X293.virtualBack hx (y := (⟨"com/example/usnea/usnea/datalog/IntList", "add", "(I)V"⟩ : MethodName)) (z := (⟨"com/example/usnea/usnea/datalog/IntList", "add", "(I)V"⟩ : MethodName)) hown (mvT hZ (hw _ (List.mem_of_getElem? (i := 38) rfl))) (mvT hZ (hw _ (List.mem_of_getElem? (i := 39) rfl))) (notFace_of_selects (args := #[]) (mvT hZ (hw _ (List.mem_of_getElem? (i := 41) rfl)))) (mvT hZ (hw _ (List.mem_of_getElem? (i := 41) rfl))) (mvT hZ (hw _ (List.mem_of_getElem? (i := 40) rfl))) (by decide) (backOf (W := 0) (rm_add_5 l Z a0 hw [] a252 ff b2293 k2293 p1 p2 p3 p4 p5 T293.heap n0 Z302 f294 f295 f296 f298 f299 ge_a252 ge_b2293 ne300) hZ (hw _ (List.mem_of_getElem? (i := 42) rfl)) (hw _ (List.mem_of_getElem? (i := 4) rfl)) (by decide) (by decide)) q303a q303c (g := (mkF m 95 #[.val (.int p0), .val (.int p1), .val (.int p2), .val (.int p3), .val (.int p4), .val (.int p5), .val (.int (6 : Int32)), .val (.int ff), .val (.ref a252), .unset, .unset] [(.int ff), (.ref a252)])) rfl (by rw [hml]; rfl) (Steps.refl _) (argsL := [(.int ff)]) (rest := []) (lenOf own_pd__28_I_29_V rfl) rfl (by show 2 * 0 + _ ≤ _; exact Nat.le_of_eq rfl) (hb hby at_95) (fun _ _ => ⟨rfl, rfl, (by decide : 3 + 0 ≤ _), (by decide : 14 + 0 ≤ _)⟩)
    dsimp only [Pt.U, Pt.locs, Pt.cells, Pt.slots] at X303 l303 y303 z303 st303 hQ303
    rw [l303, y303, z303] at X303
    obtain ⟨rfl, Nq303, K303, f304, f305, f306, f307, f308⟩ := hQ303
    have N303 := Fr.app N293 Nq303
    refine own_Goes.tr st303 ?_
    have Z309 : n0 ≤ T303.heap.size := Nat.le_trans Z302 K303.1
    show own_Goes p.tables e below P (T303.setTop (mkF m 98 #[.val (.int p0), .val (.int p1), .val (.int p2), .val (.int p3), .val (.int p4), .val (.int p5), .val (.int (6 : Int32)), .val (.int ff), .val (.ref a252), .unset, .unset] []))
    refine own_Goes.st ?_ (fun _ k => XS.aload X303.here hx rfl (hb hby at_98) rfl rfl k)
    show own_Goes p.tables e below P (T303.setTop (mkF m 100 #[.val (.int p0), .val (.int p1), .val (.int p2), .val (.int p3), .val (.int p4), .val (.int p5), .val (.int (6 : Int32)), .val (.int ff), .val (.ref a252), .unset, .unset] [(.ref a252)]))
    obtain ⟨cq310, kq310, q310a, q310b, q310c⟩ := isOf hZ rfl f304
    obtain ⟨_, _, ⟨T310, L310, k310, n310⟩, -, X310, ⟨Lc310, hQ310, l310, y310, z310⟩, st310⟩ := X303.virtualBack hx (y := (⟨"com/example/usnea/usnea/datalog/IntList", "size", "()I"⟩ : MethodName)) (z := (⟨"com/example/usnea/usnea/datalog/IntList", "size", "()I"⟩ : MethodName)) hown (mvT hZ (hw _ (List.mem_of_getElem? (i := 14) rfl))) (mvT hZ (hw _ (List.mem_of_getElem? (i := 15) rfl))) (notFace_of_selects (args := #[]) (mvT hZ (hw _ (List.mem_of_getElem? (i := 17) rfl)))) (mvT hZ (hw _ (List.mem_of_getElem? (i := 17) rfl))) (mvT hZ (hw _ (List.mem_of_getElem? (i := 16) rfl))) (by decide) (backOf (W := 0) (rm_size l Z a0 hw [] a252 (6 : Int32) T303.heap n0 Z309 f306) hZ (hw _ (List.mem_of_getElem? (i := 18) rfl)) (hw _ (List.mem_of_getElem? (i := 4) rfl)) (by decide) (by decide)) q310a q310c (g := (mkF m 100 #[.val (.int p0), .val (.int p1), .val (.int p2), .val (.int p3), .val (.int p4), .val (.int p5), .val (.int (6 : Int32)), .val (.int ff), .val (.ref a252), .unset, .unset] [(.ref a252)])) rfl (by rw [hml]; rfl) (Steps.refl _) (argsL := []) (rest := []) (lenOf own_pd__28__29_I rfl) rfl (by show 2 * 0 + _ ≤ _; exact Nat.le_of_eq rfl) (hb hby at_100) (fun _ _ => ⟨rfl, rfl, (by decide : 3 + 0 ≤ _), (by decide : 14 + 0 ≤ _)⟩)
    dsimp only [Pt.U, Pt.locs, Pt.cells, Pt.slots] at X310 l310 y310 z310 st310 hQ310
    rw [l310, y310, z310] at X310
    obtain ⟨rfl, Nq310, e310⟩ := hQ310
    have N310 := Fr.app N303 Nq310
    refine own_Goes.tr st310 ?_
    show own_Goes p.tables e below P (T310.setTop (mkF m 103 #[.val (.int p0), .val (.int p1), .val (.int p2), .val (.int p3), .val (.int p4), .val (.int p5), .val (.int (6 : Int32)), .val (.int ff), .val (.ref a252), .unset, .unset] [(.int (6 : Int32))]))
    refine own_Goes.st ?_ (fun _ k => XS.iload X310.here hx rfl (hb hby at_103) rfl k)
    show own_Goes p.tables e below P (T310.setTop (mkF m 105 #[.val (.int p0), .val (.int p1), .val (.int p2), .val (.int p3), .val (.int p4), .val (.int p5), .val (.int (6 : Int32)), .val (.int ff), .val (.ref a252), .unset, .unset] [(.int (6 : Int32)), (.int (6 : Int32))]))
    refine own_Goes.st ?_ (fun _ k => XS.icmpYes X310.here hx rfl (pc0 := 105) (pc' := 110) rfl (hb hby at_105) rfl (teq (by decide : (6 : Int32) = (6 : Int32))).1 (by decide) (by decide) k)
    show own_Goes p.tables e below P (T310.setTop (mkF m 110 #[.val (.int p0), .val (.int p1), .val (.int p2), .val (.int p3), .val (.int p4), .val (.int p5), .val (.int (6 : Int32)), .val (.int ff), .val (.ref a252), .unset, .unset] []))
    refine own_Goes.st ?_ (fun _ k => XS.aload X310.here hx rfl (hb hby at_110) rfl rfl k)
    show own_Goes p.tables e below P (T310.setTop (mkF m 112 #[.val (.int p0), .val (.int p1), .val (.int p2), .val (.int p3), .val (.int p4), .val (.int p5), .val (.int (6 : Int32)), .val (.int ff), .val (.ref a252), .unset, .unset] [(.ref a252)]))
    obtain ⟨cq311, kq311, q311a, q311b, q311c⟩ := isOf hZ e310 f304
    obtain ⟨_, _, ⟨T311, L311, k311, n311⟩, -, X311, ⟨Lc311, hQ311, l311, y311, z311⟩, st311⟩ := X310.virtualBack hx (y := (⟨"com/example/usnea/usnea/datalog/IntList", "toArray", "()[I"⟩ : MethodName)) (z := (⟨"com/example/usnea/usnea/datalog/IntList", "toArray", "()[I"⟩ : MethodName)) hown (mvT hZ (hw _ (List.mem_of_getElem? (i := 21) rfl))) (mvT hZ (hw _ (List.mem_of_getElem? (i := 22) rfl))) (notFace_of_selects (args := #[]) (mvT hZ (hw _ (List.mem_of_getElem? (i := 24) rfl)))) (mvT hZ (hw _ (List.mem_of_getElem? (i := 24) rfl))) (mvT hZ (hw _ (List.mem_of_getElem? (i := 23) rfl))) (by decide) (backOf (W := 0) (rm_toarr_6 l Z a0 hw [] a252 b2293 k2293 p1 p2 p3 p4 p5 ff T303.heap n0 Z309 f305 f306 f307 f308) hZ (hw _ (List.mem_of_getElem? (i := 25) rfl)) (hw _ (List.mem_of_getElem? (i := 4) rfl)) (by decide) (by decide)) q311a q311c (g := (mkF m 112 #[.val (.int p0), .val (.int p1), .val (.int p2), .val (.int p3), .val (.int p4), .val (.int p5), .val (.int (6 : Int32)), .val (.int ff), .val (.ref a252), .unset, .unset] [(.ref a252)])) rfl (by rw [hml]; rfl) (Steps.refl _) (argsL := []) (rest := []) (lenOf own_pd__28__29__5b_I rfl) rfl (by show 2 * 0 + _ ≤ _; exact Nat.le_of_eq rfl) (hb hby at_112) (fun _ _ => ⟨rfl, e310, (by decide : 3 + 1 ≤ _), (by decide : 14 + 6 ≤ _)⟩)
    dsimp only [Pt.U, Pt.locs, Pt.cells, Pt.slots] at X311 l311 y311 z311 st311 hQ311
    rw [l311, y311, z311] at X311
    obtain ⟨r311, q311, rfl, Nq311, K311, f312, f313⟩ := hQ311
    have N311 := Fr.app N310 Nq311
    refine own_Goes.tr st311 ?_
    have ne314 : a252 ≠ r311 := Nat.ne_of_lt (Nat.lt_of_lt_of_le f304.lt f312)
    have F315 : Exa Z T303.heap b256 "[I" := ((f291.keep K293).keep K303)
    have ne316 : b256 ≠ r311 := Nat.ne_of_lt (Nat.lt_of_lt_of_le F315.lt f312)
    have ne317 : b2293 ≠ r311 := Nat.ne_of_lt (Nat.lt_of_lt_of_le f308.lt f312)
    have ge_r311 : n0 ≤ r311 := Nat.le_trans Z309 f312
    have Z318 : n0 ≤ T311.heap.size := Nat.le_trans Z309 K311.1
    show own_Goes p.tables e below P (T311.setTop (mkF m 115 #[.val (.int p0), .val (.int p1), .val (.int p2), .val (.int p3), .val (.int p4), .val (.int p5), .val (.int (6 : Int32)), .val (.int ff), .val (.ref a252), .unset, .unset] [(.ref r311)]))
    refine own_Goes.st ?_ (fun _ k => XS.astore X311.here hx rfl (hb hby at_115) rfl rfl (l' := #[.val (.int p0), .val (.int p1), .val (.int p2), .val (.int p3), .val (.int p4), .val (.int p5), .val (.int (6 : Int32)), .val (.int ff), .val (.ref a252), .val (.ref r311), .unset]) rfl k)
    show own_Goes p.tables e below P (T311.setTop (mkF m 117 #[.val (.int p0), .val (.int p1), .val (.int p2), .val (.int p3), .val (.int p4), .val (.int p5), .val (.int (6 : Int32)), .val (.int ff), .val (.ref a252), .val (.ref r311), .unset] []))
    refine own_Goes.st ?_ (fun _ k => XS.aload X311.here hx rfl (hb hby at_117) rfl rfl k)
    show own_Goes p.tables e below P (T311.setTop (mkF m 119 #[.val (.int p0), .val (.int p1), .val (.int p2), .val (.int p3), .val (.int p4), .val (.int p5), .val (.int (6 : Int32)), .val (.int ff), .val (.ref a252), .val (.ref r311), .unset] [(.ref r311)]))
    have Vc319 := f313
    obtain ⟨cl319, Ar319, qc319, S319, Nn319, Hs319, Gs319⟩ := Vc319
    refine own_Goes.st ?_ (X311.arraylength hx Ar319.1 (State.isArrayOf_alike hZ.alike Ar319.2.1) (g := (mkF m 119 #[.val (.int p0), .val (.int p1), .val (.int p2), .val (.int p3), .val (.int p4), .val (.int p5), .val (.int (6 : Int32)), .val (.int ff), .val (.ref a252), .val (.ref r311), .unset] [(.ref r311)])) rfl rfl (hb hby at_119))
    rw [len_of S319 Nn319]
    show own_Goes p.tables e below P (T311.setTop (mkF m 120 #[.val (.int p0), .val (.int p1), .val (.int p2), .val (.int p3), .val (.int p4), .val (.int p5), .val (.int (6 : Int32)), .val (.int ff), .val (.ref a252), .val (.ref r311), .unset] [(.int (6 : Int32))]))
    refine own_Goes.st ?_ (fun _ k => XS.iload X311.here hx rfl (hb hby at_120) rfl k)
    show own_Goes p.tables e below P (T311.setTop (mkF m 122 #[.val (.int p0), .val (.int p1), .val (.int p2), .val (.int p3), .val (.int p4), .val (.int p5), .val (.int (6 : Int32)), .val (.int ff), .val (.ref a252), .val (.ref r311), .unset] [(.int (6 : Int32)), (.int (6 : Int32))]))
    refine own_Goes.st ?_ (fun _ k => XS.icmpYes X311.here hx rfl (pc0 := 122) (pc' := 127) rfl (hb hby at_122) rfl (teq (by decide : (6 : Int32) = (6 : Int32))).1 (by decide) (by decide) k)
    show own_Goes p.tables e below P (T311.setTop (mkF m 127 #[.val (.int p0), .val (.int p1), .val (.int p2), .val (.int p3), .val (.int p4), .val (.int p5), .val (.int (6 : Int32)), .val (.int ff), .val (.ref a252), .val (.ref r311), .unset] []))
    refine own_Goes.st ?_ (fun _ k => XS.iconst X311.here hx rfl (hb hby at_127) k)
    show own_Goes p.tables e below P (T311.setTop (mkF m 128 #[.val (.int p0), .val (.int p1), .val (.int p2), .val (.int p3), .val (.int p4), .val (.int p5), .val (.int (6 : Int32)), .val (.int ff), .val (.ref a252), .val (.ref r311), .unset] [(.int (1 : Int32))]))
    refine own_Goes.st ?_ (fun _ k => XS.istore X311.here hx rfl (hb hby at_128) rfl (l' := #[.val (.int p0), .val (.int p1), .val (.int p2), .val (.int p3), .val (.int p4), .val (.int p5), .val (.int (6 : Int32)), .val (.int ff), .val (.ref a252), .val (.ref r311), .val (.int (1 : Int32))]) rfl k)
    show own_Goes p.tables e below P (T311.setTop (mkF m 130 #[.val (.int p0), .val (.int p1), .val (.int p2), .val (.int p3), .val (.int p4), .val (.int p5), .val (.int (6 : Int32)), .val (.int ff), .val (.ref a252), .val (.ref r311), .val (.int (1 : Int32))] []))
    refine own_Goes.st ?_ (fun _ k => XS.iload X311.here hx rfl (hb hby at_130) rfl k)
    show own_Goes p.tables e below P (T311.setTop (mkF m 132 #[.val (.int p0), .val (.int p1), .val (.int p2), .val (.int p3), .val (.int p4), .val (.int p5), .val (.int (6 : Int32)), .val (.int ff), .val (.ref a252), .val (.ref r311), .val (.int (1 : Int32))] [(.int (6 : Int32))]))
    refine own_Goes.st ?_ (fun _ k => XS.ifNo X311.here hx rfl (hb hby at_132) rfl ((if0 _ _).trans (tlt (by decide : (0 : Int32) < (6 : Int32))).2.2.2) k)
    show own_Goes p.tables e below P (T311.setTop (mkF m 135 #[.val (.int p0), .val (.int p1), .val (.int p2), .val (.int p3), .val (.int p4), .val (.int p5), .val (.int (6 : Int32)), .val (.int ff), .val (.ref a252), .val (.ref r311), .val (.int (1 : Int32))] []))
    refine own_Goes.st ?_ (fun _ k => XS.iload X311.here hx rfl (hb hby at_135) rfl k)
    show own_Goes p.tables e below P (T311.setTop (mkF m 137 #[.val (.int p0), .val (.int p1), .val (.int p2), .val (.int p3), .val (.int p4), .val (.int p5), .val (.int (6 : Int32)), .val (.int ff), .val (.ref a252), .val (.ref r311), .val (.int (1 : Int32))] [(.int (1 : Int32))]))
    refine own_Goes.st ?_ (fun _ k => XS.ifNo X311.here hx rfl (hb hby at_137) rfl ((if0 _ _).trans (feq (by decide : ¬ ((1 : Int32) = (0 : Int32)))).1) k)
    show own_Goes p.tables e below P (T311.setTop (mkF m 140 #[.val (.int p0), .val (.int p1), .val (.int p2), .val (.int p3), .val (.int p4), .val (.int p5), .val (.int (6 : Int32)), .val (.int ff), .val (.ref a252), .val (.ref r311), .val (.int (1 : Int32))] []))
    refine own_Goes.st ?_ (fun _ k => XS.aload X311.here hx rfl (hb hby at_140) rfl rfl k)
    show own_Goes p.tables e below P (T311.setTop (mkF m 142 #[.val (.int p0), .val (.int p1), .val (.int p2), .val (.int p3), .val (.int p4), .val (.int p5), .val (.int (6 : Int32)), .val (.int ff), .val (.ref a252), .val (.ref r311), .val (.int (1 : Int32))] [(.ref r311)]))
    refine own_Goes.st ?_ (fun _ k => XS.iconst X311.here hx rfl (hb hby at_142) k)
    show own_Goes p.tables e below P (T311.setTop (mkF m 143 #[.val (.int p0), .val (.int p1), .val (.int p2), .val (.int p3), .val (.int p4), .val (.int p5), .val (.int (6 : Int32)), .val (.int ff), .val (.ref a252), .val (.ref r311), .val (.int (1 : Int32))] [(.int (0 : Int32)), (.ref r311)]))
    have hin320 : ¬ ((0 : Int32) < 0 ∨ cl319.slots.size ≤ ((0 : Int32)).toNatClampNeg) := inb_of S319 ⟨by decide, by decide⟩
    refine own_Goes.st ?_ (X311.iaload hx (j := (0 : Int32)) (v := (.int p1)) Ar319.1 (State.isArrayOf_alike hZ.alike Ar319.2.1) Ar319.2.2 hin320 (Has.at Hs319 hin320 rfl) (g := (mkF m 143 #[.val (.int p0), .val (.int p1), .val (.int p2), .val (.int p3), .val (.int p4), .val (.int p5), .val (.int (6 : Int32)), .val (.int ff), .val (.ref a252), .val (.ref r311), .val (.int (1 : Int32))] [(.int (0 : Int32)), (.ref r311)])) rfl rfl (hb hby at_143))
    show own_Goes p.tables e below P (T311.setTop (mkF m 144 #[.val (.int p0), .val (.int p1), .val (.int p2), .val (.int p3), .val (.int p4), .val (.int p5), .val (.int (6 : Int32)), .val (.int ff), .val (.ref a252), .val (.ref r311), .val (.int (1 : Int32))] [(.int p1)]))
    refine own_Goes.st ?_ (fun _ k => XS.iloadN X311.here hx rfl (hb hby at_144) rfl k)
    show own_Goes p.tables e below P (T311.setTop (mkF m 145 #[.val (.int p0), .val (.int p1), .val (.int p2), .val (.int p3), .val (.int p4), .val (.int p5), .val (.int (6 : Int32)), .val (.int ff), .val (.ref a252), .val (.ref r311), .val (.int (1 : Int32))] [(.int p1), (.int p1)]))
    refine own_Goes.st ?_ (fun _ k => XS.icmpNo X311.here hx rfl (hb hby at_145) rfl (teq (rfl : p1 = p1)).2 k)
    show own_Goes p.tables e below P (T311.setTop (mkF m 148 #[.val (.int p0), .val (.int p1), .val (.int p2), .val (.int p3), .val (.int p4), .val (.int p5), .val (.int (6 : Int32)), .val (.int ff), .val (.ref a252), .val (.ref r311), .val (.int (1 : Int32))] []))
    refine own_Goes.st ?_ (fun _ k => XS.iconst X311.here hx rfl (hb hby at_148) k)
    show own_Goes p.tables e below P (T311.setTop (mkF m 149 #[.val (.int p0), .val (.int p1), .val (.int p2), .val (.int p3), .val (.int p4), .val (.int p5), .val (.int (6 : Int32)), .val (.int ff), .val (.ref a252), .val (.ref r311), .val (.int (1 : Int32))] [(.int (1 : Int32))]))
    refine own_Goes.st ?_ (fun _ k => XS.goto X311.here hx rfl (pc0 := 149) (pc' := 153) rfl (hb hby at_149) (by decide) (by decide) k)
    show own_Goes p.tables e below P (T311.setTop (mkF m 153 #[.val (.int p0), .val (.int p1), .val (.int p2), .val (.int p3), .val (.int p4), .val (.int p5), .val (.int (6 : Int32)), .val (.int ff), .val (.ref a252), .val (.ref r311), .val (.int (1 : Int32))] [(.int (1 : Int32))]))
    refine own_Goes.st ?_ (fun _ k => XS.istore X311.here hx rfl (hb hby at_153) rfl (l' := #[.val (.int p0), .val (.int p1), .val (.int p2), .val (.int p3), .val (.int p4), .val (.int p5), .val (.int (6 : Int32)), .val (.int ff), .val (.ref a252), .val (.ref r311), .val (.int (1 : Int32))]) rfl k)
    show own_Goes p.tables e below P (T311.setTop (mkF m 155 #[.val (.int p0), .val (.int p1), .val (.int p2), .val (.int p3), .val (.int p4), .val (.int p5), .val (.int (6 : Int32)), .val (.int ff), .val (.ref a252), .val (.ref r311), .val (.int (1 : Int32))] []))
    refine own_Goes.st ?_ (fun _ k => XS.iload X311.here hx rfl (hb hby at_155) rfl k)
    show own_Goes p.tables e below P (T311.setTop (mkF m 157 #[.val (.int p0), .val (.int p1), .val (.int p2), .val (.int p3), .val (.int p4), .val (.int p5), .val (.int (6 : Int32)), .val (.int ff), .val (.ref a252), .val (.ref r311), .val (.int (1 : Int32))] [(.int (6 : Int32))]))
    refine own_Goes.st ?_ (fun _ k => XS.iconst X311.here hx rfl (hb hby at_157) k)
    show own_Goes p.tables e below P (T311.setTop (mkF m 158 #[.val (.int p0), .val (.int p1), .val (.int p2), .val (.int p3), .val (.int p4), .val (.int p5), .val (.int (6 : Int32)), .val (.int ff), .val (.ref a252), .val (.ref r311), .val (.int (1 : Int32))] [(.int (1 : Int32)), (.int (6 : Int32))]))
    refine own_Goes.st ?_ (fun _ k => XS.icmpNo X311.here hx rfl (hb hby at_158) rfl (tlt (by decide : (1 : Int32) < (6 : Int32))).2.2.2 k)
    show own_Goes p.tables e below P (T311.setTop (mkF m 161 #[.val (.int p0), .val (.int p1), .val (.int p2), .val (.int p3), .val (.int p4), .val (.int p5), .val (.int (6 : Int32)), .val (.int ff), .val (.ref a252), .val (.ref r311), .val (.int (1 : Int32))] []))
    refine own_Goes.st ?_ (fun _ k => XS.iload X311.here hx rfl (hb hby at_161) rfl k)
    show own_Goes p.tables e below P (T311.setTop (mkF m 163 #[.val (.int p0), .val (.int p1), .val (.int p2), .val (.int p3), .val (.int p4), .val (.int p5), .val (.int (6 : Int32)), .val (.int ff), .val (.ref a252), .val (.ref r311), .val (.int (1 : Int32))] [(.int (1 : Int32))]))
    refine own_Goes.st ?_ (fun _ k => XS.ifNo X311.here hx rfl (hb hby at_163) rfl ((if0 _ _).trans (feq (by decide : ¬ ((1 : Int32) = (0 : Int32)))).1) k)
    show own_Goes p.tables e below P (T311.setTop (mkF m 166 #[.val (.int p0), .val (.int p1), .val (.int p2), .val (.int p3), .val (.int p4), .val (.int p5), .val (.int (6 : Int32)), .val (.int ff), .val (.ref a252), .val (.ref r311), .val (.int (1 : Int32))] []))
    refine own_Goes.st ?_ (fun _ k => XS.aload X311.here hx rfl (hb hby at_166) rfl rfl k)
    show own_Goes p.tables e below P (T311.setTop (mkF m 168 #[.val (.int p0), .val (.int p1), .val (.int p2), .val (.int p3), .val (.int p4), .val (.int p5), .val (.int (6 : Int32)), .val (.int ff), .val (.ref a252), .val (.ref r311), .val (.int (1 : Int32))] [(.ref r311)]))
    refine own_Goes.st ?_ (fun _ k => XS.iconst X311.here hx rfl (hb hby at_168) k)
    show own_Goes p.tables e below P (T311.setTop (mkF m 169 #[.val (.int p0), .val (.int p1), .val (.int p2), .val (.int p3), .val (.int p4), .val (.int p5), .val (.int (6 : Int32)), .val (.int ff), .val (.ref a252), .val (.ref r311), .val (.int (1 : Int32))] [(.int (1 : Int32)), (.ref r311)]))
    have hin321 : ¬ ((1 : Int32) < 0 ∨ cl319.slots.size ≤ ((1 : Int32)).toNatClampNeg) := inb_of S319 ⟨by decide, by decide⟩
    refine own_Goes.st ?_ (X311.iaload hx (j := (1 : Int32)) (v := (.int p2)) Ar319.1 (State.isArrayOf_alike hZ.alike Ar319.2.1) Ar319.2.2 hin321 (Has.at Hs319 hin321 rfl) (g := (mkF m 169 #[.val (.int p0), .val (.int p1), .val (.int p2), .val (.int p3), .val (.int p4), .val (.int p5), .val (.int (6 : Int32)), .val (.int ff), .val (.ref a252), .val (.ref r311), .val (.int (1 : Int32))] [(.int (1 : Int32)), (.ref r311)])) rfl rfl (hb hby at_169))
    show own_Goes p.tables e below P (T311.setTop (mkF m 170 #[.val (.int p0), .val (.int p1), .val (.int p2), .val (.int p3), .val (.int p4), .val (.int p5), .val (.int (6 : Int32)), .val (.int ff), .val (.ref a252), .val (.ref r311), .val (.int (1 : Int32))] [(.int p2)]))
    refine own_Goes.st ?_ (fun _ k => XS.iloadN X311.here hx rfl (hb hby at_170) rfl k)
    show own_Goes p.tables e below P (T311.setTop (mkF m 171 #[.val (.int p0), .val (.int p1), .val (.int p2), .val (.int p3), .val (.int p4), .val (.int p5), .val (.int (6 : Int32)), .val (.int ff), .val (.ref a252), .val (.ref r311), .val (.int (1 : Int32))] [(.int p2), (.int p2)]))
    refine own_Goes.st ?_ (fun _ k => XS.icmpNo X311.here hx rfl (hb hby at_171) rfl (teq (rfl : p2 = p2)).2 k)
    show own_Goes p.tables e below P (T311.setTop (mkF m 174 #[.val (.int p0), .val (.int p1), .val (.int p2), .val (.int p3), .val (.int p4), .val (.int p5), .val (.int (6 : Int32)), .val (.int ff), .val (.ref a252), .val (.ref r311), .val (.int (1 : Int32))] []))
    refine own_Goes.st ?_ (fun _ k => XS.iconst X311.here hx rfl (hb hby at_174) k)
    show own_Goes p.tables e below P (T311.setTop (mkF m 175 #[.val (.int p0), .val (.int p1), .val (.int p2), .val (.int p3), .val (.int p4), .val (.int p5), .val (.int (6 : Int32)), .val (.int ff), .val (.ref a252), .val (.ref r311), .val (.int (1 : Int32))] [(.int (1 : Int32))]))
    refine own_Goes.st ?_ (fun _ k => XS.goto X311.here hx rfl (pc0 := 175) (pc' := 179) rfl (hb hby at_175) (by decide) (by decide) k)
    show own_Goes p.tables e below P (T311.setTop (mkF m 179 #[.val (.int p0), .val (.int p1), .val (.int p2), .val (.int p3), .val (.int p4), .val (.int p5), .val (.int (6 : Int32)), .val (.int ff), .val (.ref a252), .val (.ref r311), .val (.int (1 : Int32))] [(.int (1 : Int32))]))
    refine own_Goes.st ?_ (fun _ k => XS.istore X311.here hx rfl (hb hby at_179) rfl (l' := #[.val (.int p0), .val (.int p1), .val (.int p2), .val (.int p3), .val (.int p4), .val (.int p5), .val (.int (6 : Int32)), .val (.int ff), .val (.ref a252), .val (.ref r311), .val (.int (1 : Int32))]) rfl k)
    show own_Goes p.tables e below P (T311.setTop (mkF m 181 #[.val (.int p0), .val (.int p1), .val (.int p2), .val (.int p3), .val (.int p4), .val (.int p5), .val (.int (6 : Int32)), .val (.int ff), .val (.ref a252), .val (.ref r311), .val (.int (1 : Int32))] []))
    refine own_Goes.st ?_ (fun _ k => XS.iload X311.here hx rfl (hb hby at_181) rfl k)
    show own_Goes p.tables e below P (T311.setTop (mkF m 183 #[.val (.int p0), .val (.int p1), .val (.int p2), .val (.int p3), .val (.int p4), .val (.int p5), .val (.int (6 : Int32)), .val (.int ff), .val (.ref a252), .val (.ref r311), .val (.int (1 : Int32))] [(.int (6 : Int32))]))
    refine own_Goes.st ?_ (fun _ k => XS.iconst X311.here hx rfl (hb hby at_183) k)
    show own_Goes p.tables e below P (T311.setTop (mkF m 184 #[.val (.int p0), .val (.int p1), .val (.int p2), .val (.int p3), .val (.int p4), .val (.int p5), .val (.int (6 : Int32)), .val (.int ff), .val (.ref a252), .val (.ref r311), .val (.int (1 : Int32))] [(.int (2 : Int32)), (.int (6 : Int32))]))
    refine own_Goes.st ?_ (fun _ k => XS.icmpNo X311.here hx rfl (hb hby at_184) rfl (tlt (by decide : (2 : Int32) < (6 : Int32))).2.2.2 k)
    show own_Goes p.tables e below P (T311.setTop (mkF m 187 #[.val (.int p0), .val (.int p1), .val (.int p2), .val (.int p3), .val (.int p4), .val (.int p5), .val (.int (6 : Int32)), .val (.int ff), .val (.ref a252), .val (.ref r311), .val (.int (1 : Int32))] []))
    refine own_Goes.st ?_ (fun _ k => XS.iload X311.here hx rfl (hb hby at_187) rfl k)
    show own_Goes p.tables e below P (T311.setTop (mkF m 189 #[.val (.int p0), .val (.int p1), .val (.int p2), .val (.int p3), .val (.int p4), .val (.int p5), .val (.int (6 : Int32)), .val (.int ff), .val (.ref a252), .val (.ref r311), .val (.int (1 : Int32))] [(.int (1 : Int32))]))
    refine own_Goes.st ?_ (fun _ k => XS.ifNo X311.here hx rfl (hb hby at_189) rfl ((if0 _ _).trans (feq (by decide : ¬ ((1 : Int32) = (0 : Int32)))).1) k)
    show own_Goes p.tables e below P (T311.setTop (mkF m 192 #[.val (.int p0), .val (.int p1), .val (.int p2), .val (.int p3), .val (.int p4), .val (.int p5), .val (.int (6 : Int32)), .val (.int ff), .val (.ref a252), .val (.ref r311), .val (.int (1 : Int32))] []))
    refine own_Goes.st ?_ (fun _ k => XS.aload X311.here hx rfl (hb hby at_192) rfl rfl k)
    show own_Goes p.tables e below P (T311.setTop (mkF m 194 #[.val (.int p0), .val (.int p1), .val (.int p2), .val (.int p3), .val (.int p4), .val (.int p5), .val (.int (6 : Int32)), .val (.int ff), .val (.ref a252), .val (.ref r311), .val (.int (1 : Int32))] [(.ref r311)]))
    refine own_Goes.st ?_ (fun _ k => XS.iconst X311.here hx rfl (hb hby at_194) k)
    show own_Goes p.tables e below P (T311.setTop (mkF m 195 #[.val (.int p0), .val (.int p1), .val (.int p2), .val (.int p3), .val (.int p4), .val (.int p5), .val (.int (6 : Int32)), .val (.int ff), .val (.ref a252), .val (.ref r311), .val (.int (1 : Int32))] [(.int (2 : Int32)), (.ref r311)]))
    have hin322 : ¬ ((2 : Int32) < 0 ∨ cl319.slots.size ≤ ((2 : Int32)).toNatClampNeg) := inb_of S319 ⟨by decide, by decide⟩
    refine own_Goes.st ?_ (X311.iaload hx (j := (2 : Int32)) (v := (.int p3)) Ar319.1 (State.isArrayOf_alike hZ.alike Ar319.2.1) Ar319.2.2 hin322 (Has.at Hs319 hin322 rfl) (g := (mkF m 195 #[.val (.int p0), .val (.int p1), .val (.int p2), .val (.int p3), .val (.int p4), .val (.int p5), .val (.int (6 : Int32)), .val (.int ff), .val (.ref a252), .val (.ref r311), .val (.int (1 : Int32))] [(.int (2 : Int32)), (.ref r311)])) rfl rfl (hb hby at_195))
    show own_Goes p.tables e below P (T311.setTop (mkF m 196 #[.val (.int p0), .val (.int p1), .val (.int p2), .val (.int p3), .val (.int p4), .val (.int p5), .val (.int (6 : Int32)), .val (.int ff), .val (.ref a252), .val (.ref r311), .val (.int (1 : Int32))] [(.int p3)]))
    refine own_Goes.st ?_ (fun _ k => XS.iloadN X311.here hx rfl (hb hby at_196) rfl k)
    show own_Goes p.tables e below P (T311.setTop (mkF m 197 #[.val (.int p0), .val (.int p1), .val (.int p2), .val (.int p3), .val (.int p4), .val (.int p5), .val (.int (6 : Int32)), .val (.int ff), .val (.ref a252), .val (.ref r311), .val (.int (1 : Int32))] [(.int p3), (.int p3)]))
    refine own_Goes.st ?_ (fun _ k => XS.icmpNo X311.here hx rfl (hb hby at_197) rfl (teq (rfl : p3 = p3)).2 k)
    show own_Goes p.tables e below P (T311.setTop (mkF m 200 #[.val (.int p0), .val (.int p1), .val (.int p2), .val (.int p3), .val (.int p4), .val (.int p5), .val (.int (6 : Int32)), .val (.int ff), .val (.ref a252), .val (.ref r311), .val (.int (1 : Int32))] []))
    refine own_Goes.st ?_ (fun _ k => XS.iconst X311.here hx rfl (hb hby at_200) k)
    show own_Goes p.tables e below P (T311.setTop (mkF m 201 #[.val (.int p0), .val (.int p1), .val (.int p2), .val (.int p3), .val (.int p4), .val (.int p5), .val (.int (6 : Int32)), .val (.int ff), .val (.ref a252), .val (.ref r311), .val (.int (1 : Int32))] [(.int (1 : Int32))]))
    refine own_Goes.st ?_ (fun _ k => XS.goto X311.here hx rfl (pc0 := 201) (pc' := 205) rfl (hb hby at_201) (by decide) (by decide) k)
    show own_Goes p.tables e below P (T311.setTop (mkF m 205 #[.val (.int p0), .val (.int p1), .val (.int p2), .val (.int p3), .val (.int p4), .val (.int p5), .val (.int (6 : Int32)), .val (.int ff), .val (.ref a252), .val (.ref r311), .val (.int (1 : Int32))] [(.int (1 : Int32))]))
    refine own_Goes.st ?_ (fun _ k => XS.istore X311.here hx rfl (hb hby at_205) rfl (l' := #[.val (.int p0), .val (.int p1), .val (.int p2), .val (.int p3), .val (.int p4), .val (.int p5), .val (.int (6 : Int32)), .val (.int ff), .val (.ref a252), .val (.ref r311), .val (.int (1 : Int32))]) rfl k)
    show own_Goes p.tables e below P (T311.setTop (mkF m 207 #[.val (.int p0), .val (.int p1), .val (.int p2), .val (.int p3), .val (.int p4), .val (.int p5), .val (.int (6 : Int32)), .val (.int ff), .val (.ref a252), .val (.ref r311), .val (.int (1 : Int32))] []))
    refine own_Goes.st ?_ (fun _ k => XS.iload X311.here hx rfl (hb hby at_207) rfl k)
    show own_Goes p.tables e below P (T311.setTop (mkF m 209 #[.val (.int p0), .val (.int p1), .val (.int p2), .val (.int p3), .val (.int p4), .val (.int p5), .val (.int (6 : Int32)), .val (.int ff), .val (.ref a252), .val (.ref r311), .val (.int (1 : Int32))] [(.int (6 : Int32))]))
    refine own_Goes.st ?_ (fun _ k => XS.iconst X311.here hx rfl (hb hby at_209) k)
    show own_Goes p.tables e below P (T311.setTop (mkF m 210 #[.val (.int p0), .val (.int p1), .val (.int p2), .val (.int p3), .val (.int p4), .val (.int p5), .val (.int (6 : Int32)), .val (.int ff), .val (.ref a252), .val (.ref r311), .val (.int (1 : Int32))] [(.int (3 : Int32)), (.int (6 : Int32))]))
    refine own_Goes.st ?_ (fun _ k => XS.icmpNo X311.here hx rfl (hb hby at_210) rfl (tlt (by decide : (3 : Int32) < (6 : Int32))).2.2.2 k)
    show own_Goes p.tables e below P (T311.setTop (mkF m 213 #[.val (.int p0), .val (.int p1), .val (.int p2), .val (.int p3), .val (.int p4), .val (.int p5), .val (.int (6 : Int32)), .val (.int ff), .val (.ref a252), .val (.ref r311), .val (.int (1 : Int32))] []))
    refine own_Goes.st ?_ (fun _ k => XS.iload X311.here hx rfl (hb hby at_213) rfl k)
    show own_Goes p.tables e below P (T311.setTop (mkF m 215 #[.val (.int p0), .val (.int p1), .val (.int p2), .val (.int p3), .val (.int p4), .val (.int p5), .val (.int (6 : Int32)), .val (.int ff), .val (.ref a252), .val (.ref r311), .val (.int (1 : Int32))] [(.int (1 : Int32))]))
    refine own_Goes.st ?_ (fun _ k => XS.ifNo X311.here hx rfl (hb hby at_215) rfl ((if0 _ _).trans (feq (by decide : ¬ ((1 : Int32) = (0 : Int32)))).1) k)
    show own_Goes p.tables e below P (T311.setTop (mkF m 218 #[.val (.int p0), .val (.int p1), .val (.int p2), .val (.int p3), .val (.int p4), .val (.int p5), .val (.int (6 : Int32)), .val (.int ff), .val (.ref a252), .val (.ref r311), .val (.int (1 : Int32))] []))
    refine own_Goes.st ?_ (fun _ k => XS.aload X311.here hx rfl (hb hby at_218) rfl rfl k)
    show own_Goes p.tables e below P (T311.setTop (mkF m 220 #[.val (.int p0), .val (.int p1), .val (.int p2), .val (.int p3), .val (.int p4), .val (.int p5), .val (.int (6 : Int32)), .val (.int ff), .val (.ref a252), .val (.ref r311), .val (.int (1 : Int32))] [(.ref r311)]))
    refine own_Goes.st ?_ (fun _ k => XS.iconst X311.here hx rfl (hb hby at_220) k)
    show own_Goes p.tables e below P (T311.setTop (mkF m 221 #[.val (.int p0), .val (.int p1), .val (.int p2), .val (.int p3), .val (.int p4), .val (.int p5), .val (.int (6 : Int32)), .val (.int ff), .val (.ref a252), .val (.ref r311), .val (.int (1 : Int32))] [(.int (3 : Int32)), (.ref r311)]))
    have hin323 : ¬ ((3 : Int32) < 0 ∨ cl319.slots.size ≤ ((3 : Int32)).toNatClampNeg) := inb_of S319 ⟨by decide, by decide⟩
    refine own_Goes.st ?_ (X311.iaload hx (j := (3 : Int32)) (v := (.int p4)) Ar319.1 (State.isArrayOf_alike hZ.alike Ar319.2.1) Ar319.2.2 hin323 (Has.at Hs319 hin323 rfl) (g := (mkF m 221 #[.val (.int p0), .val (.int p1), .val (.int p2), .val (.int p3), .val (.int p4), .val (.int p5), .val (.int (6 : Int32)), .val (.int ff), .val (.ref a252), .val (.ref r311), .val (.int (1 : Int32))] [(.int (3 : Int32)), (.ref r311)])) rfl rfl (hb hby at_221))
    show own_Goes p.tables e below P (T311.setTop (mkF m 222 #[.val (.int p0), .val (.int p1), .val (.int p2), .val (.int p3), .val (.int p4), .val (.int p5), .val (.int (6 : Int32)), .val (.int ff), .val (.ref a252), .val (.ref r311), .val (.int (1 : Int32))] [(.int p4)]))
    refine own_Goes.st ?_ (fun _ k => XS.iload X311.here hx rfl (hb hby at_222) rfl k)
    show own_Goes p.tables e below P (T311.setTop (mkF m 224 #[.val (.int p0), .val (.int p1), .val (.int p2), .val (.int p3), .val (.int p4), .val (.int p5), .val (.int (6 : Int32)), .val (.int ff), .val (.ref a252), .val (.ref r311), .val (.int (1 : Int32))] [(.int p4), (.int p4)]))
    refine own_Goes.st ?_ (fun _ k => XS.icmpNo X311.here hx rfl (hb hby at_224) rfl (teq (rfl : p4 = p4)).2 k)
    show own_Goes p.tables e below P (T311.setTop (mkF m 227 #[.val (.int p0), .val (.int p1), .val (.int p2), .val (.int p3), .val (.int p4), .val (.int p5), .val (.int (6 : Int32)), .val (.int ff), .val (.ref a252), .val (.ref r311), .val (.int (1 : Int32))] []))
    refine own_Goes.st ?_ (fun _ k => XS.iconst X311.here hx rfl (hb hby at_227) k)
    show own_Goes p.tables e below P (T311.setTop (mkF m 228 #[.val (.int p0), .val (.int p1), .val (.int p2), .val (.int p3), .val (.int p4), .val (.int p5), .val (.int (6 : Int32)), .val (.int ff), .val (.ref a252), .val (.ref r311), .val (.int (1 : Int32))] [(.int (1 : Int32))]))
    refine own_Goes.st ?_ (fun _ k => XS.goto X311.here hx rfl (pc0 := 228) (pc' := 232) rfl (hb hby at_228) (by decide) (by decide) k)
    show own_Goes p.tables e below P (T311.setTop (mkF m 232 #[.val (.int p0), .val (.int p1), .val (.int p2), .val (.int p3), .val (.int p4), .val (.int p5), .val (.int (6 : Int32)), .val (.int ff), .val (.ref a252), .val (.ref r311), .val (.int (1 : Int32))] [(.int (1 : Int32))]))
    refine own_Goes.st ?_ (fun _ k => XS.istore X311.here hx rfl (hb hby at_232) rfl (l' := #[.val (.int p0), .val (.int p1), .val (.int p2), .val (.int p3), .val (.int p4), .val (.int p5), .val (.int (6 : Int32)), .val (.int ff), .val (.ref a252), .val (.ref r311), .val (.int (1 : Int32))]) rfl k)
    show own_Goes p.tables e below P (T311.setTop (mkF m 234 #[.val (.int p0), .val (.int p1), .val (.int p2), .val (.int p3), .val (.int p4), .val (.int p5), .val (.int (6 : Int32)), .val (.int ff), .val (.ref a252), .val (.ref r311), .val (.int (1 : Int32))] []))
    refine own_Goes.st ?_ (fun _ k => XS.iload X311.here hx rfl (hb hby at_234) rfl k)
    show own_Goes p.tables e below P (T311.setTop (mkF m 236 #[.val (.int p0), .val (.int p1), .val (.int p2), .val (.int p3), .val (.int p4), .val (.int p5), .val (.int (6 : Int32)), .val (.int ff), .val (.ref a252), .val (.ref r311), .val (.int (1 : Int32))] [(.int (6 : Int32))]))
    refine own_Goes.st ?_ (fun _ k => XS.iconst X311.here hx rfl (hb hby at_236) k)
    show own_Goes p.tables e below P (T311.setTop (mkF m 237 #[.val (.int p0), .val (.int p1), .val (.int p2), .val (.int p3), .val (.int p4), .val (.int p5), .val (.int (6 : Int32)), .val (.int ff), .val (.ref a252), .val (.ref r311), .val (.int (1 : Int32))] [(.int (4 : Int32)), (.int (6 : Int32))]))
    refine own_Goes.st ?_ (fun _ k => XS.icmpNo X311.here hx rfl (hb hby at_237) rfl (tlt (by decide : (4 : Int32) < (6 : Int32))).2.2.2 k)
    show own_Goes p.tables e below P (T311.setTop (mkF m 240 #[.val (.int p0), .val (.int p1), .val (.int p2), .val (.int p3), .val (.int p4), .val (.int p5), .val (.int (6 : Int32)), .val (.int ff), .val (.ref a252), .val (.ref r311), .val (.int (1 : Int32))] []))
    refine own_Goes.st ?_ (fun _ k => XS.iload X311.here hx rfl (hb hby at_240) rfl k)
    show own_Goes p.tables e below P (T311.setTop (mkF m 242 #[.val (.int p0), .val (.int p1), .val (.int p2), .val (.int p3), .val (.int p4), .val (.int p5), .val (.int (6 : Int32)), .val (.int ff), .val (.ref a252), .val (.ref r311), .val (.int (1 : Int32))] [(.int (1 : Int32))]))
    refine own_Goes.st ?_ (fun _ k => XS.ifNo X311.here hx rfl (hb hby at_242) rfl ((if0 _ _).trans (feq (by decide : ¬ ((1 : Int32) = (0 : Int32)))).1) k)
    show own_Goes p.tables e below P (T311.setTop (mkF m 245 #[.val (.int p0), .val (.int p1), .val (.int p2), .val (.int p3), .val (.int p4), .val (.int p5), .val (.int (6 : Int32)), .val (.int ff), .val (.ref a252), .val (.ref r311), .val (.int (1 : Int32))] []))
    refine own_Goes.st ?_ (fun _ k => XS.aload X311.here hx rfl (hb hby at_245) rfl rfl k)
    show own_Goes p.tables e below P (T311.setTop (mkF m 247 #[.val (.int p0), .val (.int p1), .val (.int p2), .val (.int p3), .val (.int p4), .val (.int p5), .val (.int (6 : Int32)), .val (.int ff), .val (.ref a252), .val (.ref r311), .val (.int (1 : Int32))] [(.ref r311)]))
    refine own_Goes.st ?_ (fun _ k => XS.iconst X311.here hx rfl (hb hby at_247) k)
    show own_Goes p.tables e below P (T311.setTop (mkF m 248 #[.val (.int p0), .val (.int p1), .val (.int p2), .val (.int p3), .val (.int p4), .val (.int p5), .val (.int (6 : Int32)), .val (.int ff), .val (.ref a252), .val (.ref r311), .val (.int (1 : Int32))] [(.int (4 : Int32)), (.ref r311)]))
    have hin324 : ¬ ((4 : Int32) < 0 ∨ cl319.slots.size ≤ ((4 : Int32)).toNatClampNeg) := inb_of S319 ⟨by decide, by decide⟩
    refine own_Goes.st ?_ (X311.iaload hx (j := (4 : Int32)) (v := (.int p5)) Ar319.1 (State.isArrayOf_alike hZ.alike Ar319.2.1) Ar319.2.2 hin324 (Has.at Hs319 hin324 rfl) (g := (mkF m 248 #[.val (.int p0), .val (.int p1), .val (.int p2), .val (.int p3), .val (.int p4), .val (.int p5), .val (.int (6 : Int32)), .val (.int ff), .val (.ref a252), .val (.ref r311), .val (.int (1 : Int32))] [(.int (4 : Int32)), (.ref r311)])) rfl rfl (hb hby at_248))
    show own_Goes p.tables e below P (T311.setTop (mkF m 249 #[.val (.int p0), .val (.int p1), .val (.int p2), .val (.int p3), .val (.int p4), .val (.int p5), .val (.int (6 : Int32)), .val (.int ff), .val (.ref a252), .val (.ref r311), .val (.int (1 : Int32))] [(.int p5)]))
    refine own_Goes.st ?_ (fun _ k => XS.iload X311.here hx rfl (hb hby at_249) rfl k)
    show own_Goes p.tables e below P (T311.setTop (mkF m 251 #[.val (.int p0), .val (.int p1), .val (.int p2), .val (.int p3), .val (.int p4), .val (.int p5), .val (.int (6 : Int32)), .val (.int ff), .val (.ref a252), .val (.ref r311), .val (.int (1 : Int32))] [(.int p5), (.int p5)]))
    refine own_Goes.st ?_ (fun _ k => XS.icmpNo X311.here hx rfl (hb hby at_251) rfl (teq (rfl : p5 = p5)).2 k)
    show own_Goes p.tables e below P (T311.setTop (mkF m 254 #[.val (.int p0), .val (.int p1), .val (.int p2), .val (.int p3), .val (.int p4), .val (.int p5), .val (.int (6 : Int32)), .val (.int ff), .val (.ref a252), .val (.ref r311), .val (.int (1 : Int32))] []))
    refine own_Goes.st ?_ (fun _ k => XS.iconst X311.here hx rfl (hb hby at_254) k)
    show own_Goes p.tables e below P (T311.setTop (mkF m 255 #[.val (.int p0), .val (.int p1), .val (.int p2), .val (.int p3), .val (.int p4), .val (.int p5), .val (.int (6 : Int32)), .val (.int ff), .val (.ref a252), .val (.ref r311), .val (.int (1 : Int32))] [(.int (1 : Int32))]))
    refine own_Goes.st ?_ (fun _ k => XS.goto X311.here hx rfl (pc0 := 255) (pc' := 259) rfl (hb hby at_255) (by decide) (by decide) k)
    show own_Goes p.tables e below P (T311.setTop (mkF m 259 #[.val (.int p0), .val (.int p1), .val (.int p2), .val (.int p3), .val (.int p4), .val (.int p5), .val (.int (6 : Int32)), .val (.int ff), .val (.ref a252), .val (.ref r311), .val (.int (1 : Int32))] [(.int (1 : Int32))]))
    refine own_Goes.st ?_ (fun _ k => XS.istore X311.here hx rfl (hb hby at_259) rfl (l' := #[.val (.int p0), .val (.int p1), .val (.int p2), .val (.int p3), .val (.int p4), .val (.int p5), .val (.int (6 : Int32)), .val (.int ff), .val (.ref a252), .val (.ref r311), .val (.int (1 : Int32))]) rfl k)
    show own_Goes p.tables e below P (T311.setTop (mkF m 261 #[.val (.int p0), .val (.int p1), .val (.int p2), .val (.int p3), .val (.int p4), .val (.int p5), .val (.int (6 : Int32)), .val (.int ff), .val (.ref a252), .val (.ref r311), .val (.int (1 : Int32))] []))
    refine own_Goes.st ?_ (fun _ k => XS.iload X311.here hx rfl (hb hby at_261) rfl k)
    show own_Goes p.tables e below P (T311.setTop (mkF m 263 #[.val (.int p0), .val (.int p1), .val (.int p2), .val (.int p3), .val (.int p4), .val (.int p5), .val (.int (6 : Int32)), .val (.int ff), .val (.ref a252), .val (.ref r311), .val (.int (1 : Int32))] [(.int (6 : Int32))]))
    refine own_Goes.st ?_ (fun _ k => XS.iconst X311.here hx rfl (hb hby at_263) k)
    show own_Goes p.tables e below P (T311.setTop (mkF m 264 #[.val (.int p0), .val (.int p1), .val (.int p2), .val (.int p3), .val (.int p4), .val (.int p5), .val (.int (6 : Int32)), .val (.int ff), .val (.ref a252), .val (.ref r311), .val (.int (1 : Int32))] [(.int (5 : Int32)), (.int (6 : Int32))]))
    refine own_Goes.st ?_ (fun _ k => XS.icmpNo X311.here hx rfl (hb hby at_264) rfl (tlt (by decide : (5 : Int32) < (6 : Int32))).2.2.2 k)
    show own_Goes p.tables e below P (T311.setTop (mkF m 267 #[.val (.int p0), .val (.int p1), .val (.int p2), .val (.int p3), .val (.int p4), .val (.int p5), .val (.int (6 : Int32)), .val (.int ff), .val (.ref a252), .val (.ref r311), .val (.int (1 : Int32))] []))
    refine own_Goes.st ?_ (fun _ k => XS.iload X311.here hx rfl (hb hby at_267) rfl k)
    show own_Goes p.tables e below P (T311.setTop (mkF m 269 #[.val (.int p0), .val (.int p1), .val (.int p2), .val (.int p3), .val (.int p4), .val (.int p5), .val (.int (6 : Int32)), .val (.int ff), .val (.ref a252), .val (.ref r311), .val (.int (1 : Int32))] [(.int (1 : Int32))]))
    refine own_Goes.st ?_ (fun _ k => XS.ifNo X311.here hx rfl (hb hby at_269) rfl ((if0 _ _).trans (feq (by decide : ¬ ((1 : Int32) = (0 : Int32)))).1) k)
    show own_Goes p.tables e below P (T311.setTop (mkF m 272 #[.val (.int p0), .val (.int p1), .val (.int p2), .val (.int p3), .val (.int p4), .val (.int p5), .val (.int (6 : Int32)), .val (.int ff), .val (.ref a252), .val (.ref r311), .val (.int (1 : Int32))] []))
    refine own_Goes.st ?_ (fun _ k => XS.aload X311.here hx rfl (hb hby at_272) rfl rfl k)
    show own_Goes p.tables e below P (T311.setTop (mkF m 274 #[.val (.int p0), .val (.int p1), .val (.int p2), .val (.int p3), .val (.int p4), .val (.int p5), .val (.int (6 : Int32)), .val (.int ff), .val (.ref a252), .val (.ref r311), .val (.int (1 : Int32))] [(.ref r311)]))
    refine own_Goes.st ?_ (fun _ k => XS.iconst X311.here hx rfl (hb hby at_274) k)
    show own_Goes p.tables e below P (T311.setTop (mkF m 275 #[.val (.int p0), .val (.int p1), .val (.int p2), .val (.int p3), .val (.int p4), .val (.int p5), .val (.int (6 : Int32)), .val (.int ff), .val (.ref a252), .val (.ref r311), .val (.int (1 : Int32))] [(.int (5 : Int32)), (.ref r311)]))
    have hin325 : ¬ ((5 : Int32) < 0 ∨ cl319.slots.size ≤ ((5 : Int32)).toNatClampNeg) := inb_of S319 ⟨by decide, by decide⟩
    refine own_Goes.st ?_ (X311.iaload hx (j := (5 : Int32)) (v := (.int ff)) Ar319.1 (State.isArrayOf_alike hZ.alike Ar319.2.1) Ar319.2.2 hin325 (Has.at Hs319 hin325 rfl) (g := (mkF m 275 #[.val (.int p0), .val (.int p1), .val (.int p2), .val (.int p3), .val (.int p4), .val (.int p5), .val (.int (6 : Int32)), .val (.int ff), .val (.ref a252), .val (.ref r311), .val (.int (1 : Int32))] [(.int (5 : Int32)), (.ref r311)])) rfl rfl (hb hby at_275))
    show own_Goes p.tables e below P (T311.setTop (mkF m 276 #[.val (.int p0), .val (.int p1), .val (.int p2), .val (.int p3), .val (.int p4), .val (.int p5), .val (.int (6 : Int32)), .val (.int ff), .val (.ref a252), .val (.ref r311), .val (.int (1 : Int32))] [(.int ff)]))
    refine own_Goes.st ?_ (fun _ k => XS.iload X311.here hx rfl (hb hby at_276) rfl k)
    show own_Goes p.tables e below P (T311.setTop (mkF m 278 #[.val (.int p0), .val (.int p1), .val (.int p2), .val (.int p3), .val (.int p4), .val (.int p5), .val (.int (6 : Int32)), .val (.int ff), .val (.ref a252), .val (.ref r311), .val (.int (1 : Int32))] [(.int ff), (.int ff)]))
    refine own_Goes.st ?_ (fun _ k => XS.icmpNo X311.here hx rfl (hb hby at_278) rfl (teq (rfl : ff = ff)).2 k)
    show own_Goes p.tables e below P (T311.setTop (mkF m 281 #[.val (.int p0), .val (.int p1), .val (.int p2), .val (.int p3), .val (.int p4), .val (.int p5), .val (.int (6 : Int32)), .val (.int ff), .val (.ref a252), .val (.ref r311), .val (.int (1 : Int32))] []))
    refine own_Goes.st ?_ (fun _ k => XS.iconst X311.here hx rfl (hb hby at_281) k)
    show own_Goes p.tables e below P (T311.setTop (mkF m 282 #[.val (.int p0), .val (.int p1), .val (.int p2), .val (.int p3), .val (.int p4), .val (.int p5), .val (.int (6 : Int32)), .val (.int ff), .val (.ref a252), .val (.ref r311), .val (.int (1 : Int32))] [(.int (1 : Int32))]))
    refine own_Goes.st ?_ (fun _ k => XS.goto X311.here hx rfl (pc0 := 282) (pc' := 286) rfl (hb hby at_282) (by decide) (by decide) k)
    show own_Goes p.tables e below P (T311.setTop (mkF m 286 #[.val (.int p0), .val (.int p1), .val (.int p2), .val (.int p3), .val (.int p4), .val (.int p5), .val (.int (6 : Int32)), .val (.int ff), .val (.ref a252), .val (.ref r311), .val (.int (1 : Int32))] [(.int (1 : Int32))]))
    refine own_Goes.st ?_ (fun _ k => XS.istore X311.here hx rfl (hb hby at_286) rfl (l' := #[.val (.int p0), .val (.int p1), .val (.int p2), .val (.int p3), .val (.int p4), .val (.int p5), .val (.int (6 : Int32)), .val (.int ff), .val (.ref a252), .val (.ref r311), .val (.int (1 : Int32))]) rfl k)
    show own_Goes p.tables e below P (T311.setTop (mkF m 288 #[.val (.int p0), .val (.int p1), .val (.int p2), .val (.int p3), .val (.int p4), .val (.int p5), .val (.int (6 : Int32)), .val (.int ff), .val (.ref a252), .val (.ref r311), .val (.int (1 : Int32))] []))
    refine own_Goes.st ?_ (fun _ k => XS.iload X311.here hx rfl (hb hby at_288) rfl k)
    show own_Goes p.tables e below P (T311.setTop (mkF m 290 #[.val (.int p0), .val (.int p1), .val (.int p2), .val (.int p3), .val (.int p4), .val (.int p5), .val (.int (6 : Int32)), .val (.int ff), .val (.ref a252), .val (.ref r311), .val (.int (1 : Int32))] [(.int (1 : Int32))]))
    obtain ⟨fs, hr, hrun, hended, hW, hsame⟩ := X311.leave (v := some (.int (1 : Int32))) (fun h => by rw [Bd.returns] at h; cases h)
    exact own_Goes.fin _ _ (retOut X311 hx (t := .boolean) Bd.returns rfl (Or.inl ⟨rfl, Or.inr (Or.inl rfl), _, rfl⟩) (hb hby at_290) hr) (hPP _ _ ⟨hrun, hended, _, _, rfl, (by show Q_law n0 _ _; exact ⟨rfl, N311⟩), ⟨_, rfl⟩, hW, hsame.mono (by decide) (by decide)⟩)
set_option maxRecDepth 65536 in
set_option maxHeartbeats 40000000 in
theorem comes_1 {Post : Tables → Env → Array Value → State → Outcome → State → Prop} (hpost : ∀ tb e args s v u, (limb_1_1.after args s (.returned v) u = true ∧ limb_1_2.after args s (.returned v) u = true ∧ True) → FrameEnd s (.returned v) u (Jvm.fieldLocs frame_1_writes args s ++ Jvm.arrayLocs frame_1_arrays args s ++ Jvm.staticLocs frame_1_statics s) 16 128 → Post tb e args s (.returned v) u) :
    ArmFor flags0 classFile x code maxLocals ret World_1 tables_1 room_1 Calls_1 rest_1 Pre_1 Post := by
  intro l hfl _ _ p e ha hc hk s m args below hf hA hF happ hP
  obtain ⟨hcalls, hrest, hpre⟩ := hP
  obtain ⟨-, -, -, hnamed, -, -, -, hat⟩ := (Spec.applies_iff hf).mp happ
  obtain ⟨hg, hn⟩ := and_e (Cond.before_iff.mp (show (Jvm.Cond.and given_1 narrow_1).before args s = true from hpre))
  obtain ⟨hg0, hg1⟩ := and_e hg
  obtain ⟨hv0, hr0⟩ := and_e hg1
  obtain ⟨hv1, hr1⟩ := and_e hr0
  obtain ⟨hv2, hr2⟩ := and_e hr1
  obtain ⟨hv3, hr3⟩ := and_e hr2
  obtain ⟨hv4, hr4⟩ := and_e hr3
  obtain ⟨w0, w1, w2, w3, w4, w5, rfl⟩ : ∃ w0 w1 w2 w3 w4 w5 : Value, args = #[w0, w1, w2, w3, w4, w5] := by
    have hs : args.size = 6 := by simpa [Cond.value, given_1] using hg0
    obtain ⟨L⟩ := args
    match L, hs with
    | [w0, w1, w2, w3, w4, w5], _ => exact ⟨w0, w1, w2, w3, w4, w5, rfl⟩
  have hw := fun d (hd : d ∈ tables_1) => atoms_spec (ws := Jvm.Cond.code x code maxLocals ret :: tables_1) hat d (List.mem_cons_of_mem _ hd)
  have hfit : Fit s := fun {y c} hc i hi => by
    obtain ⟨ha, rfl⟩ := Array.getElem?_eq_some_iff.mp hc
    have q := List.all_eq_true.mp ((Array.all_eq_true_iff_forall_mem.mp hF) _ (Array.getElem_mem ha)) i (List.mem_range.mpr hi)
    simpa [Array.getElem?_eq_getElem hi] using q
  obtain ⟨i0, ei0⟩ := is_v hv0
  obtain rfl : w0 = (.int i0) := Option.some.inj ei0
  obtain ⟨i1, ei1⟩ := is_v hv1
  obtain rfl : w1 = (.int i1) := Option.some.inj ei1
  obtain ⟨i2, ei2⟩ := is_v hv2
  obtain rfl : w2 = (.int i2) := Option.some.inj ei2
  obtain ⟨i3, ei3⟩ := is_v hv3
  obtain rfl : w3 = (.int i3) := Option.some.inj ei3
  obtain ⟨i4, ei4⟩ := is_v hv4
  obtain rfl : w4 = (.int i4) := Option.some.inj ei4
  obtain ⟨i5, ei5⟩ := is_v hr4
  obtain rfl : w5 = (.int i5) := Option.some.inj ei5
  obtain ⟨n, o, h1, h2, h3, _, L, rfl, ⟨rfl, N⟩, hq⟩ := rm_law l s _ hw tables_1 i0 i1 i2 i3 i4 i5  s.heap s.heap.size (Nat.le_refl _)  p e ha hc hk s m _ below hf ((Spec.applies_iff_loose hf).mp happ).1 ⟨rfl, State.Warmed39.refl s, rfl⟩ trivial
  refine ⟨n, _, h1, h2, h3, hpost _ _ _ _ _ _ ⟨Cond.after_iff.mpr rfl, Cond.after_iff.mpr (eq_i res_at (Term.int_eval (1)) rfl), trivial⟩ ⟨hq.1, hq.2.1, (hq.2.2.sift fun y hy => Or.inr (N y hy)).mono (by decide) (by decide)⟩⟩
theorem main_1_1 : Claimed_1_1 := comes_1 fun _ _ _ _ _ _ h hF => ⟨h.1, hF⟩
theorem main_1_2 : Claimed_1_2 := comes_1 fun _ _ _ _ _ _ h hF => ⟨h.2.1, hF⟩
end Jvm.Pilot.@@N@@
namespace Jvm.Pilot.@@N@@
open Jvm Jvm.ClassFile Sem Op Lib Jvm.Free Jvm.Stand Jvm.Pilot.@@N@@.Jvm.D
/-! MADE BY PROGRAM (witnessworld.py) out of the Statement's table words and the real class files: 12 classes; the members and pool entries that the words name. The judged class is class 1, her method 1. -/
namespace start1
open Jvm.ClassFile
def u (s : String) : CpInfo := .utf8 (stringToUtf16 s)
/-- a pool by its gaps: so many unusable entries, then the entry; so many at the end -/
def gap : Nat → List CpInfo → List CpInfo
  | 0, r => r
  | n + 1, r => .unusable :: gap n r
def poolList (es : List (Nat × CpInfo)) (last : Nat) : List CpInfo := es.foldr (fun e r => gap e.1 (e.2 :: r)) (gap last [])
def pool (es : List (Nat × CpInfo)) (last : Nat) : Array CpInfo := ⟨poolList es last⟩
def fileOf (pool : Array CpInfo) (this : Nat) (attrs : Array Attribute := #[]) (ms : Array MethodInfo := #[]) (fl : Nat := 33) (sup : Nat := 0) (ifs : Array Nat := #[]) (fds : Array FieldInfo := #[]) : ClassFile where
  minorVersion := 0
  majorVersion := 65
  constantPool := pool
  accessFlags := fl
  thisClass := this
  superClass := sup
  interfaces := ifs
  fields := fds
  methods := ms
  attributes := attrs
def plain (name : String) (sup : Option ClassId) : Class where
  name := name
  kind := .ordinary
  loader := none
  accessFlags := 33
  super := sup
  interfaces := #[]
  cf := none
  fields := #[]
  methods := #[]
  instanceTypes := #[]
  staticTypes := #[]
  resolved := #[]
  callSites := []
  init := .initialized
  statics := none
  mirror := none

def pool0 : Array CpInfo := pool [(5, u "<init>"), (0, u "()V"), (1, .class_ 10), (1, u "java/lang/Object"), (85, u "clone"), (0, u "()Ljava/lang/Object;")] 26

def k0c0 : Code := { maxStack := 0, maxLocals := 1, code := object_method_1_code, exceptionTable := #[], attributes := #[] }
def k0m0 : Method := { name := "<init>", desc := "()V", sig := { parameters := [], returnType := none }, accessFlags := 1, code := some k0c0 }
def k0m1 : Method := { name := "clone", desc := "()Ljava/lang/Object;", sig := { parameters := [], returnType := some (.object "java/lang/Object") }, accessFlags := 260, code := none }
/-- java/lang/Object -/
def k0 : Class := { plain "java/lang/Object" none with
  accessFlags := 33
  interfaces := #[]
  cf := some (fileOf pool0 8 #[] #[{ accessFlags := 1, nameIndex := 5, descriptorIndex := 6, attributes := #[] }, { accessFlags := 260, nameIndex := 96, descriptorIndex := 97, attributes := #[] }] 33 0 #[] #[])
  fields := #[]
  methods := #[k0m0, k0m1]
  instanceTypes := #[]
  staticTypes := #[]
  resolved := Array.replicate 124 none
  statics := none }

def pool1 : Array CpInfo := pool [(2, .class_ 4), (0, .nameAndType 5 6), (0, u "java/lang/Object"), (0, u "<init>"), (0, u "()V"), (0, .integer 2147483647), (0, .integer 1515870810), (0, .class_ 10), (0, u "com/example/usnea/usnea/datalog/IntList"), (0, .methodref 9 3), (0, .methodref 9 13), (0, .nameAndType 14 15), (0, u "add"), (0, u "(I)V"), (0, .methodref 9 17), (0, .nameAndType 18 19), (0, u "size"), (0, u "()I"), (0, .methodref 9 21), (0, .nameAndType 22 23), (0, u "toArray"), (0, u "()[I"), (0, .class_ 25), (0, u "com/example/usnea/usnea/datalog/IntListAddPinLaw"), (2, u "law"), (0, u "(IIIIII)Z")] 5

def k1m0 : Method := { name := "<init>", desc := "()V", sig := { parameters := [], returnType := none }, accessFlags := 1, code := none }
def k1c1 : Code := { maxStack := 2, maxLocals := 11, code := code, exceptionTable := #[], attributes := #[] }
def k1m1 : Method := { name := "law", desc := "(IIIIII)Z", sig := { parameters := [.int, .int, .int, .int, .int, .int], returnType := some .boolean }, accessFlags := 9, code := some k1c1 }
/-- com/example/usnea/usnea/datalog/IntListAddPinLaw -/
def k1 : Class := { plain "com/example/usnea/usnea/datalog/IntListAddPinLaw" (some 0) with
  accessFlags := 49
  interfaces := #[]
  cf := some (fileOf pool1 24 #[] #[{ accessFlags := 1, nameIndex := 5, descriptorIndex := 6, attributes := #[] }, { accessFlags := 9, nameIndex := 28, descriptorIndex := 29, attributes := #[] }] 49 2 #[] #[])
  fields := #[]
  methods := #[k1m0, k1m1]
  instanceTypes := #[]
  staticTypes := #[]
  resolved := Array.replicate 35 none
  statics := none }

def pool2 : Array CpInfo := pool [(1, .methodref 2 3), (0, .class_ 4), (0, .nameAndType 5 6), (0, u "java/lang/Object"), (0, u "<init>"), (0, u "()V"), (0, .fieldref 8 9), (0, .class_ 10), (0, .nameAndType 11 12), (0, u "com/example/usnea/usnea/datalog/IntList"), (0, u "values"), (0, u "[I"), (0, .fieldref 8 14), (0, .nameAndType 15 16), (0, u "size"), (0, u "I"), (0, .methodref 18 19), (0, .class_ 20), (0, .nameAndType 21 22), (0, u "java/util/Arrays"), (0, u "copyOf"), (0, u "([II)[I"), (2, u "()I"), (4, u "add"), (0, u "(I)V"), (2, u "toArray"), (0, u "()[I")] 2

def k2c0 : Code := { maxStack := 2, maxLocals := 1, code := prog_11_method_1_code, exceptionTable := #[], attributes := #[] }
def k2m0 : Method := { name := "<init>", desc := "()V", sig := { parameters := [], returnType := none }, accessFlags := 0, code := some k2c0 }
def k2c1 : Code := { maxStack := 1, maxLocals := 1, code := prog_11_method_2_code, exceptionTable := #[], attributes := #[] }
def k2m1 : Method := { name := "size", desc := "()I", sig := { parameters := [], returnType := some .int }, accessFlags := 0, code := some k2c1 }
def k2c2 : Code := { maxStack := 5, maxLocals := 2, code := prog_11_method_5_code, exceptionTable := #[], attributes := #[] }
def k2m2 : Method := { name := "add", desc := "(I)V", sig := { parameters := [.int], returnType := none }, accessFlags := 0, code := some k2c2 }
def k2c3 : Code := { maxStack := 2, maxLocals := 1, code := prog_11_method_7_code, exceptionTable := #[], attributes := #[] }
def k2m3 : Method := { name := "toArray", desc := "()[I", sig := { parameters := [], returnType := some (.array .int) }, accessFlags := 0, code := some k2c3 }
/-- com/example/usnea/usnea/datalog/IntList -/
def k2 : Class := { plain "com/example/usnea/usnea/datalog/IntList" (some 0) with
  accessFlags := 48
  interfaces := #[]
  cf := some (fileOf pool2 8 #[] #[{ accessFlags := 0, nameIndex := 5, descriptorIndex := 6, attributes := #[] }, { accessFlags := 0, nameIndex := 15, descriptorIndex := 25, attributes := #[] }, { accessFlags := 0, nameIndex := 30, descriptorIndex := 31, attributes := #[] }, { accessFlags := 0, nameIndex := 34, descriptorIndex := 35, attributes := #[] }] 48 2 #[] #[{ accessFlags := 2, nameIndex := 11, descriptorIndex := 12, attributes := #[] }, { accessFlags := 2, nameIndex := 15, descriptorIndex := 16, attributes := #[] }])
  fields := #[{ name := "values", type := (.array .int), accessFlags := 2, slot := 0, constantValue := 0 }, { name := "size", type := .int, accessFlags := 2, slot := 1, constantValue := 0 }]
  methods := #[k2m0, k2m1, k2m2, k2m3]
  instanceTypes := #[(.array .int), .int]
  staticTypes := #[]
  resolved := Array.replicate 38 none
  statics := none }

def pool3 : Array CpInfo := pool [(2, .class_ 4), (1, u "java/lang/Object"), (0, u "<init>"), (0, u "()V"), (7, .class_ 16), (1, u "java/util/Arrays"), (57, .class_ 76), (1, u "java/util/Arrays$NaturalOrder"), (32, u "()Ljava/lang/Object;"), (3, .class_ 115), (1, u "java/util/Arrays$LegacyMergeSort"), (1, u "Z"), (10, .nameAndType 129 109), (0, u "clone"), (20, .methodref 151 152), (0, .class_ 153), (0, .nameAndType 154 155), (0, u "java/lang/System"), (0, u "arraycopy"), (0, u "(Ljava/lang/Object;ILjava/lang/Object;II)V"), (146, u "copyOf"), (1, .methodref 305 306), (0, .class_ 307), (0, .nameAndType 308 309), (0, u "java/lang/Math"), (0, u "min"), (0, u "(II)I"), (6, .methodref 317 128), (0, .class_ 318), (0, u "[I"), (56, .class_ 376), (0, u "java/util/Arrays$ArrayList"), (68, u "$assertionsDisabled"), (269, u "MIN_ARRAY_SORT_GRAN"), (0, u "I"), (2, u "INSERTIONSORT_THRESHOLD"), (151, u "([II)[I"), (103, .class_ 976), (0, u "java/util/Arrays$ArrayItr")] 52

def k3m0 : Method := { name := "<init>", desc := "()V", sig := { parameters := [], returnType := none }, accessFlags := 2, code := none }
def k3c1 : Code := { maxStack := 6, maxLocals := 3, code := jdk_65_method_123_code, exceptionTable := #[], attributes := #[] }
def k3m1 : Method := { name := "copyOf", desc := "([II)[I", sig := { parameters := [(.array .int), .int], returnType := some (.array .int) }, accessFlags := 9, code := some k3c1 }
/-- java/util/Arrays -/
def k3 : Class := { plain "java/util/Arrays" (some 0) with
  accessFlags := 49
  interfaces := #[]
  cf := some (fileOf pool3 14 #[.nestMembers #[975, 375, 113, 74]] #[{ accessFlags := 2, nameIndex := 5, descriptorIndex := 6, attributes := #[] }, { accessFlags := 9, nameIndex := 302, descriptorIndex := 871, attributes := #[] }] 49 2 #[] #[{ accessFlags := 26, nameIndex := 715, descriptorIndex := 716, attributes := #[] }, { accessFlags := 26, nameIndex := 719, descriptorIndex := 716, attributes := #[] }, { accessFlags := 4120, nameIndex := 445, descriptorIndex := 117, attributes := #[] }])
  fields := #[{ name := "MIN_ARRAY_SORT_GRAN", type := .int, accessFlags := 26, slot := 0, constantValue := 0 }, { name := "INSERTIONSORT_THRESHOLD", type := .int, accessFlags := 26, slot := 1, constantValue := 0 }, { name := "$assertionsDisabled", type := .boolean, accessFlags := 4120, slot := 2, constantValue := 0 }]
  methods := #[k3m0, k3m1]
  instanceTypes := #[]
  staticTypes := #[.int, .int, .boolean]
  resolved := Array.replicate 1029 none
  statics := none }

def pool4 : Array CpInfo := pool [(1, .class_ 2), (0, u "java/lang/Math"), (1, .class_ 6), (1, u "java/lang/Object"), (0, u "<init>"), (0, u "()V"), (89, .class_ 100), (1, u "java/lang/Math$RandomNumberGeneratorHolder"), (71, u "negativeZeroFloatBits"), (0, u "J"), (2, u "negativeZeroDoubleBits"), (24, u "min"), (43, u "$assertionsDisabled"), (0, u "Z"), (88, u "(II)I"), (2, u "twoToTheDoubleScaleDown"), (0, u "D"), (4, u "twoToTheDoubleScaleUp"), (9, u "E"), (3, u "PI"), (2, u "TAU"), (2, u "DEGREES_TO_RADIANS"), (0, u "RADIANS_TO_DEGREES")] 94

def k4m0 : Method := { name := "<init>", desc := "()V", sig := { parameters := [], returnType := none }, accessFlags := 2, code := none }
def k4c1 : Code := { maxStack := 2, maxLocals := 2, code := jdk_29_method_69_code, exceptionTable := #[], attributes := #[] }
def k4m1 : Method := { name := "min", desc := "(II)I", sig := { parameters := [.int, .int], returnType := some .int }, accessFlags := 9, code := some k4c1 }
/-- java/lang/Math -/
def k4 : Class := { plain "java/lang/Math" (some 0) with
  accessFlags := 49
  interfaces := #[]
  cf := some (fileOf pool4 1 #[.nestMembers #[98]] #[{ accessFlags := 2, nameIndex := 7, descriptorIndex := 8, attributes := #[] }, { accessFlags := 9, nameIndex := 201, descriptorIndex := 335, attributes := #[] }] 49 4 #[] #[{ accessFlags := 25, nameIndex := 354, descriptorIndex := 339, attributes := #[] }, { accessFlags := 25, nameIndex := 358, descriptorIndex := 339, attributes := #[] }, { accessFlags := 25, nameIndex := 361, descriptorIndex := 339, attributes := #[] }, { accessFlags := 26, nameIndex := 364, descriptorIndex := 339, attributes := #[] }, { accessFlags := 26, nameIndex := 365, descriptorIndex := 339, attributes := #[] }, { accessFlags := 26, nameIndex := 172, descriptorIndex := 173, attributes := #[] }, { accessFlags := 26, nameIndex := 176, descriptorIndex := 173, attributes := #[] }, { accessFlags := 8, nameIndex := 344, descriptorIndex := 339, attributes := #[] }, { accessFlags := 8, nameIndex := 338, descriptorIndex := 339, attributes := #[] }, { accessFlags := 4120, nameIndex := 245, descriptorIndex := 246, attributes := #[] }])
  fields := #[{ name := "E", type := .double, accessFlags := 25, slot := 0, constantValue := 0 }, { name := "PI", type := .double, accessFlags := 25, slot := 1, constantValue := 0 }, { name := "TAU", type := .double, accessFlags := 25, slot := 2, constantValue := 0 }, { name := "DEGREES_TO_RADIANS", type := .double, accessFlags := 26, slot := 3, constantValue := 0 }, { name := "RADIANS_TO_DEGREES", type := .double, accessFlags := 26, slot := 4, constantValue := 0 }, { name := "negativeZeroFloatBits", type := .long, accessFlags := 26, slot := 5, constantValue := 0 }, { name := "negativeZeroDoubleBits", type := .long, accessFlags := 26, slot := 6, constantValue := 0 }, { name := "twoToTheDoubleScaleUp", type := .double, accessFlags := 8, slot := 7, constantValue := 0 }, { name := "twoToTheDoubleScaleDown", type := .double, accessFlags := 8, slot := 8, constantValue := 0 }, { name := "$assertionsDisabled", type := .boolean, accessFlags := 4120, slot := 9, constantValue := 0 }]
  methods := #[k4m0, k4m1]
  instanceTypes := #[]
  staticTypes := #[.double, .double, .double, .double, .double, .long, .long, .double, .double, .boolean]
  resolved := Array.replicate 460 none
  statics := none }

def pool5 : Array CpInfo := pool [(2, .class_ 4), (1, u "java/lang/Object"), (0, u "<init>"), (0, u "()V"), (1, .class_ 10), (1, u "java/lang/System"), (0, u "allowSecurityManager"), (0, u "I"), (16, u "cons"), (0, u "Ljava/io/Console;"), (77, .class_ 110), (1, u "java/lang/System$CallersHolder"), (43, u "initialErrStream"), (0, u "Ljava/io/PrintStream;"), (19, u "security"), (0, u "Ljava/lang/SecurityManager;"), (31, .class_ 209), (0, u "java/lang/System$1"), (7, u "props"), (0, u "Ljava/util/Properties;"), (2, u "lineSeparator"), (0, u "Ljava/lang/String;"), (96, .class_ 321), (1, u "java/lang/System$LoggerFinder"), (5, .class_ 328), (0, u "java/lang/System$Logger"), (67, u "err"), (2, u "out"), (91, u "notSupportedJnuEncoding"), (15, u "in"), (17, u "initialIn"), (0, u "Ljava/io/InputStream;"), (35, u "bootLayer"), (0, u "Ljava/lang/ModuleLayer;"), (99, .class_ 664), (0, u "java/lang/System$2"), (9, u "NEVER"), (2, u "MAYBE"), (49, u "arraycopy"), (0, u "(Ljava/lang/Object;ILjava/lang/Object;II)V"), (72, .class_ 802), (0, u "java/lang/System$Logger$Level")] 31

def k5m0 : Method := { name := "<init>", desc := "()V", sig := { parameters := [], returnType := none }, accessFlags := 2, code := none }
def k5m1 : Method := { name := "arraycopy", desc := "(Ljava/lang/Object;ILjava/lang/Object;II)V", sig := { parameters := [(.object "java/lang/Object"), .int, (.object "java/lang/Object"), .int, .int], returnType := none }, accessFlags := 265, code := none }
/-- java/lang/System -/
def k5 : Class := { plain "java/lang/System" (some 0) with
  accessFlags := 49
  interfaces := #[]
  cf := some (fileOf pool5 8 #[.nestMembers #[319, 327, 801, 108, 663, 208]] #[{ accessFlags := 2, nameIndex := 5, descriptorIndex := 6, attributes := #[] }, { accessFlags := 265, nameIndex := 727, descriptorIndex := 728, attributes := #[] }] 49 2 #[] #[{ accessFlags := 25, nameIndex := 507, descriptorIndex := 526, attributes := #[] }, { accessFlags := 25, nameIndex := 399, descriptorIndex := 155, attributes := #[] }, { accessFlags := 25, nameIndex := 396, descriptorIndex := 155, attributes := #[] }, { accessFlags := 10, nameIndex := 525, descriptorIndex := 526, attributes := #[] }, { accessFlags := 26, nameIndex := 674, descriptorIndex := 12, attributes := #[] }, { accessFlags := 26, nameIndex := 677, descriptorIndex := 12, attributes := #[] }, { accessFlags := 10, nameIndex := 11, descriptorIndex := 12, attributes := #[] }, { accessFlags := 74, nameIndex := 175, descriptorIndex := 176, attributes := #[] }, { accessFlags := 10, nameIndex := 491, descriptorIndex := 222, attributes := #[] }, { accessFlags := 74, nameIndex := 29, descriptorIndex := 30, attributes := #[] }, { accessFlags := 74, nameIndex := 154, descriptorIndex := 155, attributes := #[] }, { accessFlags := 10, nameIndex := 217, descriptorIndex := 218, attributes := #[] }, { accessFlags := 10, nameIndex := 221, descriptorIndex := 222, attributes := #[] }, { accessFlags := 8, nameIndex := 562, descriptorIndex := 563, attributes := #[] }])
  fields := #[{ name := "in", type := (.object "java/io/InputStream"), accessFlags := 25, slot := 0, constantValue := 0 }, { name := "out", type := (.object "java/io/PrintStream"), accessFlags := 25, slot := 1, constantValue := 0 }, { name := "err", type := (.object "java/io/PrintStream"), accessFlags := 25, slot := 2, constantValue := 0 }, { name := "initialIn", type := (.object "java/io/InputStream"), accessFlags := 10, slot := 3, constantValue := 0 }, { name := "NEVER", type := .int, accessFlags := 26, slot := 4, constantValue := 0 }, { name := "MAYBE", type := .int, accessFlags := 26, slot := 5, constantValue := 0 }, { name := "allowSecurityManager", type := .int, accessFlags := 10, slot := 6, constantValue := 0 }, { name := "security", type := (.object "java/lang/SecurityManager"), accessFlags := 74, slot := 7, constantValue := 0 }, { name := "notSupportedJnuEncoding", type := (.object "java/lang/String"), accessFlags := 10, slot := 8, constantValue := 0 }, { name := "cons", type := (.object "java/io/Console"), accessFlags := 74, slot := 9, constantValue := 0 }, { name := "initialErrStream", type := (.object "java/io/PrintStream"), accessFlags := 74, slot := 10, constantValue := 0 }, { name := "props", type := (.object "java/util/Properties"), accessFlags := 10, slot := 11, constantValue := 0 }, { name := "lineSeparator", type := (.object "java/lang/String"), accessFlags := 10, slot := 12, constantValue := 0 }, { name := "bootLayer", type := (.object "java/lang/ModuleLayer"), accessFlags := 8, slot := 13, constantValue := 0 }]
  methods := #[k5m0, k5m1]
  instanceTypes := #[]
  staticTypes := #[(.object "java/io/InputStream"), (.object "java/io/PrintStream"), (.object "java/io/PrintStream"), (.object "java/io/InputStream"), .int, .int, .int, (.object "java/lang/SecurityManager"), (.object "java/lang/String"), (.object "java/io/Console"), (.object "java/io/PrintStream"), (.object "java/util/Properties"), (.object "java/lang/String"), (.object "java/lang/ModuleLayer")]
  resolved := Array.replicate 834 none
  statics := none }

def pool6 : Array CpInfo := pool [(1, .class_ 2), (0, u "java/lang/Cloneable"), (0, .class_ 4), (0, u "java/lang/Object")] 2

/-- java/lang/Cloneable -/
def k6 : Class := { plain "java/lang/Cloneable" (some 0) with
  accessFlags := 1537
  interfaces := #[]
  cf := some (fileOf pool6 1 #[] #[] 1537 3 #[] #[])
  fields := #[]
  methods := #[]
  instanceTypes := #[]
  staticTypes := #[]
  resolved := Array.replicate 7 none
  statics := none }

def pool7 : Array CpInfo := pool [(1, u "java/io/Serializable"), (0, .class_ 1), (0, u "java/lang/Object"), (0, .class_ 3)] 3

/-- java/io/Serializable -/
def k7 : Class := { plain "java/io/Serializable" (some 0) with
  accessFlags := 1537
  interfaces := #[]
  cf := some (fileOf pool7 2 #[] #[] 1537 4 #[] #[])
  fields := #[]
  methods := #[]
  instanceTypes := #[]
  staticTypes := #[]
  resolved := Array.replicate 8 none
  statics := none }

/-- the primitive byte -/
def k8 : Class := { plain "byte" none with kind := .primitive 'B', accessFlags := 0x411 }
/-- [B -/
def k9 : Class := { plain "[B" (some 0) with kind := .array 8 .byte, interfaces := #[6, 7], accessFlags := 1041 }

/-- the primitive int -/
def k10 : Class := { plain "int" none with kind := .primitive 'I', accessFlags := 0x411 }
/-- [I -/
def k11 : Class := { plain "[I" (some 0) with kind := .array 10 .int, interfaces := #[6, 7], accessFlags := 1041 }

def heap : Heap := #[]
def classes : Array Class := #[k0, k1, k2, k3, k4, k5, k6, k7, k8, k9, k10, k11]
def interned : List (Array UInt16 × Addr) := []
def slotsUsed : Nat := 0
def theMethod : MethodId := ⟨1, 1⟩
def args0 : Array Value := #[.int 3, .int 1, .int 2, .int 3, .int 4, .int 5]
def aboutOver (below : List Frame) : State where
  vm := { classes := classes, interned := interned.toArray }
  heap := heap
  slotsUsed := slotsUsed
  threads := #[{ frames := .invoking theMethod args0 :: below }]
def below0 : List Frame := [.native { method := ⟨0, 0⟩, args := #[] }]
def about1 : State := aboutOver below0
def p0 : Program := .bare "" "" ""
def e0 : Env := launch0.env 0 0 0
theorem w_frames : about1.frames = Frame.invoking theMethod args0 :: below0 := rfl
set_option maxRecDepth 65536 in
theorem w_args : argsFit about1.vm theMethod args0 = true := by decide +kernel
set_option maxRecDepth 65536 in
theorem w_heap : heapFits about1 = true := by decide +kernel
set_option maxRecDepth 65536 in
theorem w_runnable : about1.curStatus? = some .runnable := by decide +kernel
set_option maxRecDepth 65536 in
theorem w_alone : about1.alone = true := by decide +kernel
set_option maxRecDepth 65536 in
theorem w_named : about1.methodNamed? x = some theMethod := by decide +kernel
set_option maxRecDepth 65536 in
theorem w_hears : about1.hears theMethod below0 = true := by decide +kernel
set_option maxRecDepth 65536 in
theorem w_ripe : about1.ripe theMethod args0 below0 = true := by decide +kernel
theorem w_running : about1.status = .running := rfl
set_option maxRecDepth 65536 in
theorem w_room : about1.hasRoom e0.platform room_1 = true :=
  launch0.hasRoom_least _ room_1 (by decide +kernel) (by decide +kernel) (by decide +kernel) (by decide +kernel) (by decide +kernel) (by decide +kernel)
theorem allAtoms_all (ts : List Jvm.Cond) (a : Array Jvm.Value) (st : Jvm.State) : (allAtoms ts).before a st = ts.all (fun c => c.before a st) := by
  induction ts with
  | nil => rfl
  | cons c t ih =>
    show (Jvm.Cond.and c (allAtoms t)).before a st = _
    rw [Jvm.Cond.before_and, ih, List.all_cons]
def words1 : List Jvm.Cond := Jvm.Cond.code x code maxLocals ret :: tables_1
/-- a 'code' word, met by the world's own term for the bytes: nothing is compared byte by byte -/
theorem code_word {y : MethodName} {bytes : ByteArray} {mx : Nat} {rt : Option FieldType} {a : Array Value} {s : State} {m : MethodId} {meth : Method} {c : Code} (h1 : s.methodNamed? y = some m) (h2 : s.vm.method? m = some meth) (h3 : meth.code = some c) (h4 : c.code = bytes)
    (h5 : (c.maxLocals == mx && c.exceptionTable.isEmpty && decide (c.maxStack ≤ mostOperands) && decide (meth.sig.returnType = rt) && !meth.locks && decide (parseMethodDescriptor y.desc = some meth.sig)) = true) : (Jvm.Cond.code y bytes mx rt).before a s = true := by
  simp only [Bool.and_eq_true, beq_iff_eq, Bool.not_eq_true', decide_eq_true_eq] at h5
  obtain ⟨⟨⟨⟨⟨g1, g2⟩, g3⟩, g4⟩, g5⟩, g6⟩ := h5
  simp [Cond.before, Cond.holds, Cond.value, h1, h2, h3, h4, g1, g2, g3, g4, g5, g6]
def isCode : Jvm.Cond → Bool
  | .code _ _ _ _ => true
  | _ => false
theorem all_split {L : List Jvm.Cond} {P : Jvm.Cond → Bool} (h1 : L.all (fun c => isCode c || P c) = true) (h2 : ∀ c ∈ L.filter isCode, P c = true) : L.all P = true := by
  refine List.all_eq_true.mpr fun c hc => ?_
  have h := List.all_eq_true.mp h1 c hc
  rcases Bool.eq_false_or_eq_true (isCode c) with hi | hi
  · exact h2 c (List.mem_filter.mpr ⟨hc, hi⟩)
  · simpa [hi] using h
set_option maxRecDepth 65536 in
theorem w_c0 : (Jvm.Cond.code x code maxLocals ret).before args0 about1 = true := code_word (m := ⟨1, 1⟩) (meth := k1m1) (c := k1c1) (by decide +kernel) rfl rfl rfl (by decide +kernel)
set_option maxRecDepth 65536 in
theorem w_c1 : (Jvm.Cond.code ({ cls := "com/example/usnea/usnea/datalog/IntList", name := "<init>", desc := "()V" } : Jvm.MethodName) prog_11_method_1_code (1 : Nat) (Option.none : Option Jvm.ClassFile.FieldType)).before args0 about1 = true := code_word (m := ⟨2, 0⟩) (meth := k2m0) (c := k2c0) (by decide +kernel) rfl rfl rfl (by decide +kernel)
set_option maxRecDepth 65536 in
theorem w_c2 : (Jvm.Cond.code ({ cls := "java/lang/Object", name := "<init>", desc := "()V" } : Jvm.MethodName) object_method_1_code (1 : Nat) (Option.none : Option Jvm.ClassFile.FieldType)).before args0 about1 = true := code_word (m := ⟨0, 0⟩) (meth := k0m0) (c := k0c0) (by decide +kernel) rfl rfl rfl (by decide +kernel)
set_option maxRecDepth 65536 in
theorem w_c3 : (Jvm.Cond.code ({ cls := "com/example/usnea/usnea/datalog/IntList", name := "size", desc := "()I" } : Jvm.MethodName) prog_11_method_2_code (1 : Nat) (Option.some Jvm.ClassFile.FieldType.int)).before args0 about1 = true := code_word (m := ⟨2, 1⟩) (meth := k2m1) (c := k2c1) (by decide +kernel) rfl rfl rfl (by decide +kernel)
set_option maxRecDepth 65536 in
theorem w_c4 : (Jvm.Cond.code ({ cls := "com/example/usnea/usnea/datalog/IntList", name := "toArray", desc := "()[I" } : Jvm.MethodName) prog_11_method_7_code (1 : Nat) (Option.some (Jvm.ClassFile.FieldType.array Jvm.ClassFile.FieldType.int))).before args0 about1 = true := code_word (m := ⟨2, 3⟩) (meth := k2m3) (c := k2c3) (by decide +kernel) rfl rfl rfl (by decide +kernel)
set_option maxRecDepth 65536 in
theorem w_c5 : (Jvm.Cond.code ({ cls := "java/util/Arrays", name := "copyOf", desc := "([II)[I" } : Jvm.MethodName) jdk_65_method_123_code (3 : Nat) (Option.some (Jvm.ClassFile.FieldType.array Jvm.ClassFile.FieldType.int))).before args0 about1 = true := code_word (m := ⟨3, 1⟩) (meth := k3m1) (c := k3c1) (by decide +kernel) rfl rfl rfl (by decide +kernel)
set_option maxRecDepth 65536 in
theorem w_c6 : (Jvm.Cond.code ({ cls := "java/lang/Math", name := "min", desc := "(II)I" } : Jvm.MethodName) jdk_29_method_69_code (2 : Nat) (Option.some Jvm.ClassFile.FieldType.int)).before args0 about1 = true := code_word (m := ⟨4, 1⟩) (meth := k4m1) (c := k4c1) (by decide +kernel) rfl rfl rfl (by decide +kernel)
set_option maxRecDepth 65536 in
theorem w_c7 : (Jvm.Cond.code ({ cls := "com/example/usnea/usnea/datalog/IntList", name := "add", desc := "(I)V" } : Jvm.MethodName) prog_11_method_5_code (2 : Nat) (Option.none : Option Jvm.ClassFile.FieldType)).before args0 about1 = true := code_word (m := ⟨2, 2⟩) (meth := k2m2) (c := k2c2) (by decide +kernel) rfl rfl rfl (by decide +kernel)
def codes1 : List Jvm.Cond := [Jvm.Cond.code x code maxLocals ret, Jvm.Cond.code ({ cls := "com/example/usnea/usnea/datalog/IntList", name := "<init>", desc := "()V" } : Jvm.MethodName) prog_11_method_1_code (1 : Nat) (Option.none : Option Jvm.ClassFile.FieldType), Jvm.Cond.code ({ cls := "java/lang/Object", name := "<init>", desc := "()V" } : Jvm.MethodName) object_method_1_code (1 : Nat) (Option.none : Option Jvm.ClassFile.FieldType), Jvm.Cond.code ({ cls := "com/example/usnea/usnea/datalog/IntList", name := "size", desc := "()I" } : Jvm.MethodName) prog_11_method_2_code (1 : Nat) (Option.some Jvm.ClassFile.FieldType.int), Jvm.Cond.code ({ cls := "com/example/usnea/usnea/datalog/IntList", name := "toArray", desc := "()[I" } : Jvm.MethodName) prog_11_method_7_code (1 : Nat) (Option.some (Jvm.ClassFile.FieldType.array Jvm.ClassFile.FieldType.int)), Jvm.Cond.code ({ cls := "java/util/Arrays", name := "copyOf", desc := "([II)[I" } : Jvm.MethodName) jdk_65_method_123_code (3 : Nat) (Option.some (Jvm.ClassFile.FieldType.array Jvm.ClassFile.FieldType.int)), Jvm.Cond.code ({ cls := "java/lang/Math", name := "min", desc := "(II)I" } : Jvm.MethodName) jdk_29_method_69_code (2 : Nat) (Option.some Jvm.ClassFile.FieldType.int), Jvm.Cond.code ({ cls := "com/example/usnea/usnea/datalog/IntList", name := "add", desc := "(I)V" } : Jvm.MethodName) prog_11_method_5_code (2 : Nat) (Option.none : Option Jvm.ClassFile.FieldType)]
set_option maxRecDepth 65536 in
theorem codes_eq : words1.filter isCode = codes1 := rfl
theorem w_codes : ∀ c ∈ words1.filter isCode, c.before args0 about1 = true := by
  rw [codes_eq]
  intro c hc
  simp only [codes1, List.mem_cons, List.not_mem_nil, or_false] at hc
  rcases hc with rfl | rfl | rfl | rfl | rfl | rfl | rfl | rfl
  · exact w_c0
  · exact w_c1
  · exact w_c2
  · exact w_c3
  · exact w_c4
  · exact w_c5
  · exact w_c6
  · exact w_c7
set_option maxRecDepth 65536 in
theorem w_t1 : (words1.take 24).all (fun c => isCode c || c.before args0 about1) = true := by decide +kernel
set_option maxRecDepth 65536 in
theorem w_t2 : ((words1.drop 24).take 24).all (fun c => isCode c || c.before args0 about1) = true := by decide +kernel
set_option maxRecDepth 65536 in
theorem w_t3 : ((words1.drop 24).drop 24).all (fun c => isCode c || c.before args0 about1) = true := by decide +kernel
theorem w_tables : (allAtoms (Jvm.Cond.code x code maxLocals ret :: tables_1)).before args0 about1 = true := by
  rw [allAtoms_all]
  show words1.all (fun c => c.before args0 about1) = true
  refine all_split ?_ w_codes
  rw [← List.take_append_drop 24 words1, List.all_append, w_t1, ← List.take_append_drop 24 (words1.drop 24), List.all_append, w_t2, w_t3]
  rfl
set_option maxRecDepth 65536 in
theorem w_case : (Jvm.Cond.and given_1 narrow_1).before args0 about1 = true := by decide +kernel
theorem w_applies : (headSpec (Jvm.Cond.code x code maxLocals ret :: tables_1) room_1).applies x e0.platform about1 = true :=
  (Spec.applies_iff w_frames).mpr ⟨w_running, w_runnable, w_alone, w_named, w_hears, w_ripe, w_room, w_tables⟩
theorem atStart : AtStart classFile x code maxLocals ret World_1 tables_1 room_1 Calls_1 rest_1 Pre_1 launch0 p0 e0 about1 theMethod args0 below0 :=
  ⟨lists_1, trivial, launch0.admits_env _ _ _, launch0.least_env, fairChoices_fair.cas, fairChoices_fair.clock, w_frames, w_args, w_heap, w_applies, trivial, trivial, w_case⟩
end start1
theorem witness_1 : WitnessClaimed_1 := ⟨start1.p0, start1.e0, start1.about1, start1.theMethod, start1.args0, start1.below0, start1.atStart⟩
end Jvm.Pilot.@@N@@
